import PyProof.Rows.All
import KE.KSortTup
import Wide.FinOn
import OpenK.AllK
import Wide.All
import PySem.Challenge.RW_rl0096_01
section
open PySem PySem.W PyProof.Rows
set_option Elab.async false
set_option linter.unusedVariables false
namespace Mine
/-! closed lemmas of arithmetic, each used at many places (printed by a program from the calls of omega) -/
theorem ar0 {a : Nat}  : (0 : Int) ≤ ((a : Nat) : Int) := Int.natCast_nonneg a
theorem ar1 {a : Nat} (h0 : a ≤ (1000000 : Nat)) : a ≤ (16777216 : Nat) := by lia
theorem ar2 {a b : Nat} (h0 : (a + (1 : Nat)) ≤ b) : a ≤ b := Nat.le_of_succ_le h0
theorem ar3 {a b c : Nat} (h0 : a ≤ b) (h1 : c < a) : c < b := Nat.lt_of_lt_of_le h1 h0
theorem ar4 {a : Nat}  : (0 : Nat) ≤ a := Nat.zero_le a
theorem ar5 {a b c : Nat} (h0 : a ≤ (60 : Nat)) (h1 : b ≤ a) (h2 : c = b) : c ≤ (1000000 : Nat) := h2 ▸ Nat.le_trans h1 (Nat.le_trans h0 (by decide))
theorem ar6 {a b c : Int} (h0 : a ≤ b) (h1 : c ≤ a) : c ≤ b := Int.le_trans h1 h0
theorem ar7 {a : Nat} (h0 : a ≤ (3 : Nat)) : a ≤ (1000000 : Nat) := by lia
theorem ar8 {a b c d e : Nat} (h0 : a = b) (h1 : c ≤ b) (h2 : ((d : Nat) : Int) < ((c : Nat) : Int)) (h3 : ((d + c) / (2 : Nat)) = e) : e < a := h3 ▸ Nat.lt_of_lt_of_le ((Nat.div_lt_iff_lt_mul (by decide)).mpr (by rw [Nat.mul_two]; exact Nat.add_lt_add_right (Int.ofNat_lt.mp h2) c)) (h0 ▸ h1)
theorem ar9 {a b : Nat} (h0 : (a + (1 : Nat)) ≤ b) : (1 : Nat) ≤ b := Nat.one_le_of_lt h0
theorem ar10 {a b c : Nat} (h0 : a ≤ ((b + (1 : Nat)) + c)) : a ≤ (b + (c + (1 : Nat))) := by rw [Nat.add_right_comm] at h0; exact h0
theorem ar11 {a b c : Nat} (h0 : (a + (b + (1 : Nat))) ≤ c) : ((a + (1 : Nat)) + b) ≤ c := by rw [Nat.add_right_comm]; exact h0
theorem ar12 {a b c : Nat} (h0 : a = b) (h1 : c < b) : c < a := Nat.lt_of_lt_of_eq h1 (id (Eq.symm h0))
theorem ar13 {a b : Nat} (h0 : a < (64 : Nat)) (h1 : b ≤ a) : b < (64 : Nat) := Nat.lt_of_le_of_lt h1 h0
theorem ar14 {a b : Nat} (h0 : a ≤ (60 : Nat)) (h1 : b < a) : ((b : Nat) : Int) < ((2 : Int) ^ (63 : Nat)) := Int.ofNat_lt.mpr (Nat.lt_of_lt_of_le h1 (Nat.le_trans h0 (by decide)))
theorem ar15 {a b : Nat} (h0 : a ≤ (1000 : Nat)) (h1 : b = a) : b ≤ (1000000 : Nat) := h1 ▸ Nat.le_trans h0 (by decide)
theorem ar16 {a : Nat}  : a ≤ (a + (1 : Nat)) := Nat.le_add_right a 1
theorem ar17 {a b : Nat} (h0 : a ≤ b) : a ≤ (b + (1 : Nat)) := Nat.le_add_right_of_le h0
theorem ar18 {a b : Nat} (h0 : a < b) : a ≠ (b + (5 : Nat)) := fun e => Nat.not_lt_of_le (Nat.le_add_right b 5) (e ▸ h0)
theorem ar19 {a b : Nat} (h0 : a ≤ ((1 : Nat) + b)) : (a + (1 : Nat)) ≤ ((1 : Nat) + (b + (1 : Nat))) := Nat.add_le_add_right h0 1
theorem ar20 {a b : Nat} (h0 : a ≤ (18 : Nat)) (h1 : b ≤ ((1 : Nat) + a)) : b ≤ (1000000 : Nat) := Nat.le_trans h1 (Nat.le_trans (Nat.add_le_add_left h0 1) (by decide))
theorem ar21 {a b : Int} (h0 : a ≤ b) (h1 : a = (0 : Int)) : (0 : Int) ≤ b := le_of_eq_of_le (id (Eq.symm h1)) h0
theorem ar22 {a b : Int} (h0 : a < b) : a ≤ b := Int.le_of_lt h0
theorem ar23 {a b : Nat}  : (min a b) ≤ b := Nat.min_le_right a b
theorem ar24 {a : Int}  : (Int.toNat ((a / (8 : Int)) % (6 : Int))) < (6 : Nat) := (Int.toNat_lt (Int.emod_nonneg _ (by decide))).mpr (Int.emod_lt_of_pos _ (by decide))
theorem ar25 {a : Nat} (h0 : (1 : Nat) ≤ a) : (a - (1 : Nat)) < a := Nat.sub_one_lt_of_lt h0
theorem ar26 {a b : Int} (h0 : ¬(a < b)) : b ≤ a := Int.not_lt.mp h0
theorem ar27 {a : Nat}  : ((0 : Nat) + (1 : Nat)) ≤ (a + (1 : Nat)) := Nat.le_add_left (0 + 1) a
theorem ar28 {a b : Nat} (h0 : ((a + (1 : Nat)) - ((0 : Nat) + (1 : Nat))) ≤ b) (h1 : b < (a + (1 : Nat))) : b = ((a + (1 : Nat)) - (1 : Nat)) := Nat.eq_of_le_of_lt_succ h0 h1
theorem ar29 {a b : Nat} (h0 : a < (b + (1 : Nat))) (h1 : ¬(a = b)) : a < b := Nat.lt_of_le_of_ne (Nat.le_of_lt_succ h0) h1
theorem ar30 {a b : Nat} (h0 : a ≤ b) (h1 : a ≥ b) : a = b := Nat.le_antisymm h0 h1
theorem ar31 {a : Nat} (h0 : a ≤ (0 : Nat)) : a = (0 : Nat) := Nat.eq_zero_of_le_zero h0
theorem ar32 {a b : Nat} (h0 : a ≤ (b + (1 : Nat))) (h1 : b < a) : a = (b + (1 : Nat)) := Eq.symm (Nat.le_antisymm h1 h0)
theorem ar33 {a b : Nat} (h0 : a < b) : a < (b + (1 : Nat)) := Nat.lt_add_right 1 h0
theorem ar34 {a : Nat}  : a < (a + (1 : Nat)) := Nat.lt_add_one a
theorem ar35 {a : Nat} (h0 : a ≤ (60 : Nat)) : a ≤ (1000000 : Nat) := by lia
theorem ar36 {a : Nat} (h0 : a < (64 : Nat)) : a ≤ (1000000 : Nat) := Nat.le_trans (Nat.le_of_lt h0) (by decide)
theorem ar37 {a b : Nat} (h0 : a < b) : (a + (1 : Nat)) ≤ b := Nat.succ_le_of_lt h0
theorem ar38 {a b : Nat}  : ((a + (1 : Nat)) + b) = (a + (b + (1 : Nat))) := Nat.succ_add_eq_add_succ a b
theorem ar39 {a b c : Nat} (h0 : a = b) (h1 : c < a) : c < b := Nat.lt_of_lt_of_eq h1 h0
theorem ar40 {a b : Nat} (h0 : (a + (b + (1 : Nat))) < (400 : Nat)) : a < (1000 : Nat) := Nat.lt_of_le_of_lt (Nat.le_add_right _ _) (Nat.lt_trans h0 (by decide))
theorem ar41   : (0 : Nat) ≤ (16777216 : Nat) := Nat.zero_le 16777216
theorem ar42 {a : Nat}  : (a + (4 : Nat)) ≠ (a + (5 : Nat)) := Nat.ne_add_one (a + 4)
theorem ar43 {a : Nat}  : a ≠ (a + (5 : Nat)) := by lia
theorem ar44 {a : Nat}  : (a + (1 : Nat)) ≠ (a + (5 : Nat)) := fun e => absurd (Nat.add_left_cancel e) (by decide)
theorem ar45 {a b : Nat} (h0 : (a + (5 : Nat)) < b) : b ≠ (a + (5 : Nat)) := Ne.symm (Nat.ne_of_lt h0)
theorem ar46 {a : Nat} (h0 : a ≤ (100 : Nat)) : a ≤ (1000000 : Nat) := by lia
theorem ar47 {a : Int} (h0 : (0 : Int) < a) : a ≠ (0 : Int) := Ne.symm (Int.ne_of_lt h0)
theorem ar48 {a : Int} (h0 : (0 : Int) < a) : (0 : Int) ≤ a := Int.le_of_lt h0
theorem ar49 {a b : Nat} (h0 : a ≤ b) : a ≤ b := String.Pos.Raw.mk_le_mk.mp h0
theorem ar50 {a b : Nat} (h0 : (a + (1 : Nat)) ≤ b) : a < b := Nat.lt_of_succ_le h0
theorem ar51 {a : Int}  : (a - (1 : Int)) < a := Int.sub_one_lt_of_le (Int.le_refl _)
theorem ar52 {a b c : Int} (h0 : ¬(a < b)) (h1 : a = c) : b ≤ c := h1 ▸ Int.not_lt.mp h0
theorem ar53 {a : Int} (h0 : ((97 : Int) ≤ a) ∧ (a ≤ (122 : Int))) : ¬(a ≥ (256 : Int)) := Int.not_le_of_gt (Int.lt_of_le_of_lt h0.2 (by decide))
theorem ar54 {a : Nat}  : ((12272 : Int) + ((a : Nat) : Int)) ≥ (256 : Int) := Int.le_trans (by decide) (Int.le_add_of_nonneg_right (Int.natCast_nonneg a))
theorem ar55 {a : Int}  : (Int.toNat (((a / (8 : Int)) / (26 : Int)) % (11 : Int))) < (11 : Nat) := (Int.toNat_lt (Int.emod_nonneg _ (by decide))).mpr (Int.emod_lt_of_pos _ (by decide))
theorem ar56 {a : Int} (h0 : (a = (8 : Int)) ∨ ((a = (190 : Int)) ∨ ((a = (17 : Int)) ∨ ((a = (45 : Int)) ∨ ((a = (223 : Int)) ∨ ((a = (41 : Int)) ∨ ((a = (13 : Int)) ∨ ((a = (78 : Int)) ∨ (a = (6 : Int)))))))))) : (0 : Int) ≤ a := by rcases h0 with h | h | h | h | h | h | h | h | h <;> exact h ▸ Int.ofNat_nonneg _
theorem ar57 {a b : Nat} (h0 : a < (b + (1 : Nat))) (h1 : ¬(a < b)) : a = b := Nat.eq_of_lt_succ_of_not_lt h0 h1
theorem ar58 {a b : Nat} (h0 : a ≤ b) (h1 : ¬(a = b)) : a ≤ (b - (1 : Nat)) := Nat.le_sub_one_of_lt (Nat.lt_of_le_of_ne h0 h1)
theorem ar59 {a b c : Int} (h0 : a ≤ b) (h1 : b ≤ c) : a ≤ c := Int.le_trans h0 h1
theorem ar60 {a b : Nat}  : a ≤ (a + (b + (1 : Nat))) := Nat.le_add_right a (b + 1)
theorem ar61 {a b : Int} (h0 : ¬(a < b)) (h1 : ¬(b < a)) : a = b := Int.le_antisymm (Int.not_lt.mp h1) (Int.not_lt.mp h0)
theorem ar62 {a b c : Nat} (h0 : a ≤ b) (h1 : b ≤ c) : a ≤ c := Nat.le_trans h0 h1
theorem ar63 {a b c : Nat} (h0 : (a + (1 : Nat)) ≤ b) (h1 : c ≤ ((a + (1 : Nat)) + (b - (a + (1 : Nat))))) : c ≤ b := by rw [Nat.add_sub_cancel' h0] at h1; exact h1
theorem ar64 {a b : Nat} (h0 : a ≤ b) (h1 : b < (1 : Nat)) : a = b := Nat.le_antisymm h0 (Nat.le_trans (Nat.le_of_lt_succ h1) (Nat.zero_le a))
theorem ar65 {a b : Nat} (h0 : (1 : Nat) ≤ a) (h1 : b ≤ ((1 : Nat) + (a - (1 : Nat)))) : b ≤ a := by rw [Nat.add_sub_cancel' h0] at h1; exact h1
theorem ar66 {a : Nat} (h0 : (1 : Nat) ≤ a) : (1 : Nat) ≤ a := Nat.one_le_of_lt h0
theorem ar67 {a b c : Int} (h0 : a < b) (h1 : b ≤ c) : a < c := Int.lt_of_lt_of_le h0 h1
theorem ar68 {a b c d : Nat} (h0 : a ≤ b) (h1 : c ≤ d) (h2 : d < (b + (1 : Nat))) (h3 : ¬(c = a)) : (d - (1 : Nat)) < b := by cases d with | zero => exact Nat.lt_of_lt_of_le (Nat.pos_of_ne_zero fun e => h3 ((Nat.le_zero.mp h1).trans e.symm)) h0 | succ d => exact Nat.lt_of_succ_lt_succ h2
theorem ar69 {a b : Int} (h0 : a < b) : (a + (1 : Int)) ≤ b := Int.add_one_le_of_lt h0
theorem ar70 {a : Nat}  : (0 : Int) ≤ (((2 : Int) * ((a : Nat) : Int)) + (1 : Int)) := Int.zero_le_ofNat (2 * a + 1)
theorem ar71 {a b c d : Nat} (h0 : (a + b) = c) (h1 : (d + (1 : Nat)) = a) : (d + (b + (1 : Nat))) = c := by rw [← h0, ← h1, Nat.add_right_comm]; rfl
theorem ar72 {a : Int} (h0 : (0 : Int) ≤ a) : ¬(a < (0 : Int)) := Int.not_lt_of_ge h0
theorem ar73 {a b : Nat} (h0 : a ≤ (1000000 : Nat)) (h1 : b = a) : ((b : Nat) : Int) < ((2 : Int) ^ (63 : Nat)) := Int.ofNat_lt.mpr (h1 ▸ Nat.lt_of_le_of_lt h0 (by decide))
theorem ar74 {a b : Nat} (h0 : (2 : Nat) ≤ a) (h1 : b = a) : (2 : Nat) ≤ b := le_of_le_of_eq h0 (id (Eq.symm h1))
theorem ar75 {a b : Nat} (h0 : a < (64 : Nat)) (h1 : b = a) : b < (64 : Nat) := lt_of_eq_of_lt h1 h0
theorem ar76 {a : Nat} (h0 : (2 : Nat) ≤ a) : (1 : Nat) ≤ a := Nat.one_le_of_lt h0
theorem ar77 {a b : Nat} (h0 : a < (64 : Nat)) (h1 : b ≤ a) : b ≤ (1000000 : Nat) := Nat.le_trans h1 (Nat.le_trans (Nat.le_of_lt h0) (by decide))
theorem ar78 {a b c d e : Nat} (h0 : a < (64 : Nat)) (h1 : b = a) (h2 : c = b) (h3 : d < c) (h4 : e ≤ d) : e ≤ (1000000 : Nat) := Nat.le_trans h4 (Nat.le_of_lt (Nat.lt_trans h3 (h2 ▸ h1 ▸ Nat.lt_trans h0 (by decide))))
theorem ar79 {a b : Nat} (h0 : a ≤ (60 : Nat)) (h1 : b < a) : ((b : Nat) : Int) ≤ (1000000 : Int) := Int.ofNat_le.mpr (Nat.le_of_lt (Nat.lt_of_lt_of_le h1 (Nat.le_trans h0 (by decide))))
theorem ar80 {a b : Nat} (h0 : a < b) : (b - (a + (1 : Nat))) < (b - a) := Nat.sub_succ_lt_self b a h0
theorem ar81 {a b c : Nat} (h0 : a ≤ b) (h1 : c ≤ a) : c ≤ b := Nat.le_trans h1 h0
theorem ar82 {a b c : Nat} (h0 : a ≤ (1000 : Nat)) (h1 : b = a) : (min c b) ≤ (999999 : Nat) := Nat.le_trans (Nat.min_le_right _ _) (h1 ▸ Nat.le_trans h0 (by decide))
theorem ar83 {a : Nat} (h0 : a ≤ (1000 : Nat)) : a ≤ (1000000 : Nat) := by lia
theorem ar84 {a : Nat} (h0 : a ≤ (1000 : Nat)) : a ≤ (999999 : Nat) := by lia
theorem ar85 {a b c d : Int} (h0 : a ≤ b) (h1 : (c + d) ≤ a) : (c + d) ≤ b := Int.le_trans h1 h0
theorem ar86 {a : Nat} (h0 : a ≤ (17 : Nat)) : a ≤ (100 : Nat) := by lia
theorem ar87 {a : Nat} (h0 : a = (2 : Nat)) : ¬(a = (0 : Nat)) := by lia
theorem ar88 {a : Nat} (h0 : a = (3 : Nat)) : ¬(a = (0 : Nat)) := by lia
theorem ar89 {a : Nat} (h0 : a < a) : False := by lia
theorem ar90 {a : Nat}  : (a + (2 : Nat)) ≠ (a + (5 : Nat)) := by lia
theorem ar91 {a b : Nat} (h0 : a = b) (h1 : (0 : Nat) < a) : (0 : Nat) < b := Nat.lt_of_lt_of_eq h1 h0
theorem ar92 {a b : Nat} (h0 : a < b) : (a < b) ∨ ((a = (b + (2 : Nat))) ∨ ((b + (5 : Nat)) < a)) := Or.symm (Or.inr h0)
theorem ar93 {a b : Nat} (h0 : a = b) : a ≤ b := Nat.le_of_eq h0
theorem ar94 {a : Int} (h0 : ¬((a = (12274 : Int)) ∨ (a = (12275 : Int)))) : (¬((12274 : Int) = a)) ∧ (¬((12275 : Int) = a)) := ⟨fun e => h0 (.inl e.symm), fun e => h0 (.inr e.symm)⟩
theorem ar95 {a b c d : Nat} (h0 : a = b) (h1 : c = d) (h2 : b = d) : a = c := by lia
theorem ar96 {a b c d : Nat} (h0 : a = b) (h1 : b = c) (h2 : d < a) : d < c := h1 ▸ h0 ▸ h2
theorem ar97 {a b c : Nat} (h0 : a = b) (h1 : ¬(c < a)) : b ≤ c := h0 ▸ Nat.le_of_not_lt h1
theorem ar98 {a b c d : Nat} (h0 : a = b) (h1 : b = c) (h2 : ¬(d < a)) : c ≤ d := h1 ▸ h0 ▸ Nat.le_of_not_lt h2
theorem ar99 {a b c d : Nat} (h0 : a = b) (h1 : c = d) (h2 : ¬(b = d)) : ¬(a = c) := by lia
theorem ar100 {a b c : Nat} (h0 : a ≤ b) (h1 : c = b) : (min a c) = a := Nat.min_eq_left (h1 ▸ h0)
theorem ar101 {a b c : Nat} (h0 : a ≤ b) (h1 : b ≤ c) : (min a c) = a := Nat.min_eq_left (Nat.le_trans h0 h1)
theorem ar102 {a b : Nat} (h0 : a ≤ ((1 : Nat) + ((3 : Nat) * b))) : a ≤ ((1 : Nat) + ((3 : Nat) * (b + (1 : Nat)))) := Nat.le_trans h0 (Nat.add_le_add_left (Nat.mul_le_mul_left 3 (Nat.le_succ b)) 1)
theorem ar103 {a : Int} (h0 : ((0 : Int) ≤ a) ∧ (a ≤ (65279 : Int))) : a ≤ (1114111 : Int) := Int.le_trans h0.2 (by decide)
theorem ar104 {a b : Nat} (h0 : a ≤ ((1 : Nat) + ((3 : Nat) * b))) : (a + (1 : Nat)) ≤ ((1 : Nat) + ((3 : Nat) * (b + (1 : Nat)))) := Nat.succ_le_succ (Nat.le_trans h0 (Nat.add_le_add_left (Nat.le_add_right _ 2) 1))
theorem ar105 {a b c : Nat} (h0 : (a + b) = (c + (1 : Nat))) (h1 : b ≤ c) : (a - (1 : Nat)) < a := Nat.sub_lt (Nat.pos_of_ne_zero fun e => by subst e; rw [Nat.zero_add] at h0; subst h0; exact Nat.not_succ_le_self c h1) Nat.one_pos
theorem ar106 {a b c : Nat} (h0 : (a + b) = (c + (1 : Nat))) (h1 : b ≤ c) : ((a - (1 : Nat)) + (b + (1 : Nat))) = (c + (1 : Nat)) := by rw [← Nat.add_assoc, Nat.add_right_comm, Nat.sub_add_cancel (Nat.pos_of_ne_zero fun e => by subst e; rw [Nat.zero_add] at h0; subst h0; exact Nat.not_succ_le_self c h1)]; exact h0
theorem ar107 {a b : Nat} (h0 : a ≤ b) (h1 : ¬(a < b)) : a = b := Nat.le_antisymm h0 (Nat.le_of_not_lt h1)
theorem ar108 {a : Nat}  : (min (9 : Nat) a) ≤ (1000000 : Nat) := Nat.le_trans (Nat.min_le_left _ _) (by decide)
theorem ar109 {a b : Nat} (h0 : a ≤ (18 : Nat)) (h1 : b ≤ ((1 : Nat) + ((3 : Nat) * a))) : b ≤ (1000000 : Nat) := Nat.le_trans h1 (Nat.le_trans (Nat.add_le_add_left (Nat.mul_le_mul_left 3 h0) 1) (by decide))
theorem ar110 {a : Int}  : (0 : Int) ≤ ((a / (8 : Int)) % (6 : Int)) := Int.emod_nonneg _ (by decide)
theorem ar111 {a : Int}  : ((a / (8 : Int)) % (6 : Int)) < ((2 : Int) ^ (63 : Nat)) := Int.lt_trans (Int.emod_lt_of_pos _ (by decide)) (by decide)
theorem ar112 {a b : Int} (h0 : (0 : Int) ≤ a) (h1 : (a + b) ≤ (5 : Int)) : b ≤ (1000000 : Int) := Int.le_trans (Int.le_add_of_nonneg_left h0) (Int.le_trans h1 (by decide))
theorem ar113 {a b : Int} (h0 : a ≤ b) (h1 : b ≤ a) : b = a := Int.le_antisymm h1 h0
theorem ar114 {a b c : Nat} (h0 : a ≤ b) (h1 : ((a + b) / (2 : Nat)) = c) : a ≤ c := h1 ▸ (Nat.le_div_iff_mul_le (by decide)).mpr (by rw [Nat.mul_two]; exact Nat.add_le_add_left h0 a)
theorem ar115 {a b : Nat} (h0 : a < b) : (b - a) = ((b - (a + (1 : Nat))) + (1 : Nat)) := by rw [← Nat.sub_sub, Nat.sub_add_cancel (Nat.sub_pos_of_lt h0)]
theorem ar116 {a : Nat}  : (a - (0 : Nat)) = (a - (0 : Nat)) := Nat.sub_zero a
theorem ar117   : (0 : Nat) < (4096 : Nat) := Nat.zero_lt_succ 4095
theorem ar118 {a : Int} (h0 : (0 : Int) < a) (h1 : a < (1000000 : Int)) : (Int.natAbs a) < (1073741824 : Nat) := Int.ofNat_lt.mp (Int.lt_trans (by rw [Int.natAbs_of_nonneg (Int.le_of_lt h0)]; exact h1) (by decide))
theorem ar119 {a b c d : Int} (h0 : a ≤ b) (h1 : c ≤ d) : (a + c) ≤ (b + d) := Int.add_le_add h0 h1
theorem ar120 {a b c d : Int} (h0 : a ≤ b) : ((c + a) - c) ≤ ((d + b) - d) := by lia
theorem ar121 {a b c d e f : Int} (h0 : (a - b) ≤ (c - d)) (h1 : e ≤ f) : ((e + a) - b) ≤ ((f + c) - d) := by lia
theorem ar122 {a b c d : Int} (h0 : (a - b) ≤ (c - d)) (h1 : (c - d) ≤ (a - b)) : (a - b) = (c - d) := Int.le_antisymm h0 h1
theorem ar123 {a b c d e : Int} (h0 : (a - b) = (c - d)) (h1 : b = e) : a = ((c - d) + e) := by rw [← h0, h1, Int.sub_add_cancel]
theorem ar124 {a b c d e f : Int} (h0 : ((a - b) + c) ≤ d) (h1 : (e - f) = (c - b)) : ((a - f) + e) ≤ d := by lia
theorem ar125 {a b c d e : Int} (h0 : (a + b) ≤ c) (h1 : ((c - a) + d) ≤ e) : (d + b) ≤ e := by lia
theorem ar126 {a b c d e : Int} (h0 : (a - b) ≤ (c - d)) : ((e - b) + a) ≤ ((c - d) + e) := by lia
theorem ar127 {a b c d e f : Int} (h0 : (a - b) ≤ (c - d)) (h1 : (c + e) ≤ f) : (d + e) ≤ ((f - a) + b) := by lia
theorem ar128 {a b c : Nat} (h0 : a < (min (b + (1 : Nat)) c)) : a < c := Nat.lt_of_lt_of_le h0 (Nat.min_le_right _ _)
theorem ar129 {a b c : Nat} (h0 : a < (min (b + (1 : Nat)) c)) (h1 : a ≥ b) : a = b := Nat.le_antisymm (Nat.le_of_lt_succ (Nat.lt_of_lt_of_le h0 (Nat.min_le_left _ _))) h1
theorem ar130 {a b : Nat} {c d e f g h i j : Int} (h0 : (a + (1 : Nat)) ≤ b) (h1 : ¬(((c - d) + e) ≤ f)) (h2 : g = ((c - d) + h)) (h3 : (i - j) ≤ (h - e)) : ((f - g) + i) < j := by lia
theorem ar131 {a : Int} (h0 : a = (0 : Int)) : (0 : Int) ≤ a := Int.le_of_eq (id (Eq.symm h0))
theorem ar132 {a b : Nat} {c d e f g : Int} (h0 : (a + (1 : Nat)) ≤ b) (h1 : (c - (0 : Int)) ≤ (d - e)) (h2 : c = (0 : Int)) (h3 : ((0 : Int) < f) ∧ ((0 : Int) < g)) : ((0 : Int) < ((d - e) + f)) ∧ ((0 : Int) < ((d - e) + g)) := by subst h2; exact ⟨Int.add_pos_of_nonneg_of_pos (Int.le_trans (Int.le_refl 0) h1) h3.1, Int.add_pos_of_nonneg_of_pos (Int.le_trans (Int.le_refl 0) h1) h3.2⟩
theorem ar133 {a b : Int} (h0 : (0 : Int) < a) (h1 : (0 : Int) ≤ b) : ((0 : Int) < (b + a)) ∧ ((0 : Int) < a) := ⟨Int.lt_of_lt_of_le h0 (Int.le_add_of_nonneg_left h1), h0⟩
theorem ar134 {a b : Nat} (h0 : a ≤ (b + (1 : Nat))) : a ≤ (b + (1 : Nat)) := String.Pos.Raw.mk_le_mk.mp h0
theorem ar135 {a b c : Int} (h0 : a < b) (h1 : a = c) : c < b := lt_of_eq_of_lt (id (Eq.symm h1)) h0
theorem ar136 {a b : Nat} (h0 : (a + (1 : Nat)) < (b + (1 : Nat))) : a < b := Nat.succ_lt_succ_iff.mp h0
theorem ar137 {a : Nat} {b c : Int} (h0 : (a + (1 : Nat)) ≤ (0 : Nat)) : b ≤ c := by lia
theorem ar138 {a b : Nat} (h0 : (a + (1 : Nat)) ≤ (b + (1 : Nat))) : a ≤ b := Nat.le_of_lt_succ h0
theorem ar139 {a b c : Int} (h0 : ¬(a < b)) (h1 : a ≤ c) : b ≤ c := Int.le_trans (Int.not_lt.mp h0) h1
theorem ar140 {a b c : Nat} (h0 : a < (min b c)) : a < b := Nat.lt_of_lt_of_le h0 (Nat.min_le_left _ _)
theorem ar141 {a b : Nat}  : a ≤ (a + b) := Nat.le_add_right a b
theorem ar142 {a b c : Int} (h0 : a < b) (h1 : b ≤ c) : a ≤ c := Int.le_of_lt (Int.lt_of_lt_of_le h0 h1)
theorem ar143 {a b : Nat}  : ((min a b) + ((b - a) + (1 : Nat))) = (b + (1 : Nat)) := by rw [← Nat.add_assoc, Nat.min_comm, Nat.add_comm (min b a), Nat.sub_add_min_cancel]
theorem ar144 {a b c d : Nat} (h0 : a ≤ b) (h1 : c < (min a d)) : c < b := Nat.lt_of_lt_of_le (Nat.lt_of_lt_of_le h1 (Nat.min_le_left _ _)) h0
theorem ar145 {a b c : Nat} (h0 : a < b) (h1 : b ≤ c) : a < c := Nat.lt_of_lt_of_le h0 h1
theorem ar146 {a b : Nat} (h0 : ¬(a < b)) : b ≤ a := ar98 rfl rfl h0
theorem ar147 {a : Int} (h0 : ((97 : Int) ≤ a) ∧ (a ≤ (122 : Int))) : ((0 : Int) < (a - (96 : Int))) ∧ (a ≠ (0 : Int)) := ⟨Int.sub_pos_of_lt (Int.lt_of_lt_of_le (by decide) h0.1), fun e => absurd h0.1 (by rw [e]; decide)⟩
theorem ar148 {a b : Nat} (h0 : (a + (1 : Nat)) ≤ b) : (0 : Nat) < b := Nat.zero_lt_of_lt h0
theorem ar149 {a b : Nat} (h0 : (a + (1 : Nat)) ≤ b) : a ≤ ((b - (1 : Nat)) + (0 : Nat)) := Nat.le_sub_one_of_lt h0
theorem ar150 {a b : Nat}  : (a - (b + (1 : Nat))) = ((a - (1 : Nat)) - b) := by rw [Nat.sub_sub, Nat.add_comm]
theorem ar151 {a : Nat} {b : Int} (h0 : ((a : Nat) : Int) ≤ b) : a ≤ (Int.toNat b) := (Int.le_toNat (Int.le_trans (Int.natCast_nonneg a) h0)).mpr h0
theorem ar152 {a : Int} {b : Nat}  : (Int.toNat (a - ((b : Nat) : Int))) = ((Int.toNat a) - b) := Int.toNat_sub' a b
theorem ar153 {a : Nat} {b : Int} {c : Nat} (h0 : ((a : Nat) : Int) = b) : (((a + c) : Nat) : Int) = (b + ((c : Nat) : Int)) := Nat.ToInt.add_congr h0 rfl
theorem ar154 {a : Int}  : (Int.toNat ((a / (8 : Int)) % (27 : Int))) < (27 : Nat) := (Int.toNat_lt (Int.emod_nonneg _ (by decide))).mpr (Int.emod_lt_of_pos _ (by decide))
theorem ar155 {a : Int}  : ((a / (8 : Int)) % (27 : Int)) = (((Int.toNat ((a / (8 : Int)) % (27 : Int))) : Nat) : Int) := (Int.toNat_of_nonneg (Int.emod_nonneg _ (by decide))).symm
theorem ar156 {a : Nat} (h0 : a < (11 : Nat)) : ((a : Nat) : Int) < (11 : Int) := Int.lt_toNat.mp h0
theorem ar157 {a : Nat} (h0 : ¬(a < (11 : Nat))) : ¬(((a : Nat) : Int) < (11 : Int)) := fun g => h0 (Int.ofNat_lt.mp g)
theorem ar158 {a : Int}  : (Int.toNat ((a / (8 : Int)) % (12 : Int))) < (12 : Nat) := (Int.toNat_lt (Int.emod_nonneg _ (by decide))).mpr (Int.emod_lt_of_pos _ (by decide))
theorem ar159 {a : Int}  : ((a / (8 : Int)) % (12 : Int)) = (((Int.toNat ((a / (8 : Int)) % (12 : Int))) : Nat) : Int) := (Int.toNat_of_nonneg (Int.emod_nonneg _ (by decide))).symm
theorem ar160 {a b c : Int} (h0 : (a > (0 : Int)) ∧ (((b + a) + c) ≤ (5 : Int))) : (0 : Nat) < (Int.toNat a) := Int.pos_iff_toNat_pos.mp h0.1
theorem ar162 {a : Nat}  : ((0 : Int) < ((2 : Int) * (((12272 : Int) + ((a : Nat) : Int)) - (12271 : Int)))) ∧ (((12272 : Int) + ((a : Nat) : Int)) ≠ (0 : Int)) := ⟨Int.mul_pos (by decide) (Int.sub_pos_of_lt (Int.lt_of_lt_of_le (by decide) (Int.le_add_of_nonneg_right (Int.natCast_nonneg a)))), fun e => absurd (Int.le_add_of_nonneg_right (a := 12272) (Int.natCast_nonneg a)) (by rw [e]; decide)⟩
theorem ar163 {a : Nat} (h0 : a ≤ (3 : Nat)) : a ≤ (100 : Nat) := by lia
theorem ar164 {a : Int}  : (Int.toNat ((a / (8 : Int)) % (26 : Int))) < (26 : Nat) := (Int.toNat_lt (Int.emod_nonneg _ (by decide))).mpr (Int.emod_lt_of_pos _ (by decide))
theorem ar165 {a : Int}  : ((a / (8 : Int)) % (26 : Int)) = (((Int.toNat ((a / (8 : Int)) % (26 : Int))) : Nat) : Int) := (Int.toNat_of_nonneg (Int.emod_nonneg _ (by decide))).symm
theorem ar166 {a : Nat} {b : Int} (h0 : a < (26 : Nat)) (h1 : b = ((97 : Int) + ((a : Nat) : Int))) : ((97 : Int) ≤ b) ∧ (b ≤ (122 : Int)) := h1 ▸ ⟨Int.le_add_of_nonneg_right (Int.natCast_nonneg a), Int.add_le_add_left (Int.ofNat_le.mpr (Nat.le_of_lt_succ h0)) 97⟩
theorem ar167 {a : Int} (h0 : a > (0 : Int)) : (1 : Int) ≤ a := Int.le_of_sub_one_lt h0
theorem ar168 {a : Int}  : (0 : Int) ≤ (a % (1000000 : Int)) := Int.emod_nonneg _ (by decide)
theorem ar169 {a : Nat}  : ((min (9 : Nat) a) + ((9 : Nat) - (min (9 : Nat) a))) ≤ (9 : Nat) := by rw [Nat.add_sub_cancel' (Nat.min_le_left 9 a)]; exact Nat.le_refl _
theorem ar170 {a : Int} (h0 : (0 : Int) ≤ a) : (max a (0 : Int)) ≤ a := Int.max_le.mpr ⟨Int.le_refl _, h0⟩
theorem ar171 {a : Int}  : (Int.toNat (a - (((Int.toNat a) : Nat) : Int))) = (0 : Nat) := by rw [Int.toNat_sub']; exact Nat.sub_self _
theorem ar172 {a : Nat} {b c : Int} {d : Nat} (h0 : a ≤ (9 : Nat)) (h1 : (b + c) ≤ (5 : Int)) (h2 : (0 : Int) ≤ b) (h3 : d ≤ ((1 : Nat) + ((3 : Nat) * a))) : (d + (Int.toNat c)) ≤ (60 : Nat) := by lia
theorem ar173 {a b : Int} {c : Nat} (h0 : (0 : Int) ≤ a) (h1 : (b + a) ≤ (5 : Int)) (h2 : ((c : Nat) : Int) = (b + (((Int.toNat a) : Nat) : Int))) : c ≤ (5 : Nat) := by lia
theorem ar174 {a : Nat} {b c : Int} {d : Nat} (h0 : a ≤ (9 : Nat)) (h1 : (b + c) ≤ (5 : Int)) (h2 : (0 : Int) ≤ b) (h3 : d ≤ ((1 : Nat) + a)) : (d + (Int.toNat c)) ≤ (1000 : Nat) := by lia
theorem ar175 {a b c : Nat} (h0 : (a ≤ b) ∧ (b < c)) : (((a + c) - (1 : Nat)) - b) = (a + ((c - (1 : Nat)) - b)) := by rw [Nat.add_sub_assoc (Nat.zero_lt_of_lt h0.2 : 1 ≤ c), Nat.add_sub_assoc (Nat.le_sub_one_of_lt h0.2)]
theorem ar176 {a b c : Nat}  : a ≤ (a + ((b - (1 : Nat)) - c)) := Nat.le_add_right a (b - 1 - c)
theorem ar177 {a b c : Nat} (h0 : (a ≤ b) ∧ (b < c)) : (a + ((c - (1 : Nat)) - b)) < c := Nat.lt_of_le_of_lt (by rw [← Nat.add_sub_assoc (Nat.le_sub_one_of_lt h0.2), Nat.add_comm]; exact Nat.sub_le_of_le_add (Nat.add_le_add_left h0.1 _)) (Nat.sub_lt (Nat.zero_lt_of_lt h0.2) Nat.one_pos)
theorem ar178 {a : Nat}  : (1 : Nat) ≤ (a + (1 : Nat)) := Nat.le_add_left 1 a
theorem ar179 {a b c : Nat} (h0 : a < (b + (c + (1 : Nat)))) : a < ((b + (1 : Nat)) + c) := by rw [Nat.add_right_comm]; exact h0
theorem ar180 {a b c : Nat} (h0 : (a + (b + (1 : Nat))) ≤ c) : a ≤ c := Nat.le_of_add_right_le h0
theorem ar181 {a b : Nat} (h0 : (a + (1 : Nat)) ≤ b) : ((a + (1 : Nat)) + (1 : Nat)) ≤ (b + (1 : Nat)) := Nat.add_le_add_right h0 1
theorem ar182 {a : Nat}  : ((a + (1 : Nat)) - (1 : Nat)) = a := Nat.add_sub_self_right a 1
theorem ar183 {a b c : Nat} (h0 : ((a + (1 : Nat)) - ((b + (1 : Nat)) + (1 : Nat))) ≤ c) : (a - (b + (1 : Nat))) ≤ c := by rw [Nat.add_sub_add_right] at h0; exact h0
theorem ar184 {a b c : Nat} (h0 : a ≤ b) (h1 : b < c) : ((0 : Nat) ≤ a) ∧ (a < c) := ⟨Nat.zero_le _, Nat.lt_of_le_of_lt h0 h1⟩
theorem ar185 {a b : Nat} (h0 : a < b) : ((0 : Nat) ≤ a) ∧ (a < b) := if_false_right.mp h0
theorem ar186 {a b c : Nat} (h0 : a ≤ b) : ((0 : Nat) + ((c - (1 : Nat)) - b)) ≤ ((0 : Nat) + ((c - (1 : Nat)) - a)) := Nat.add_le_add_left (Nat.sub_le_sub_left h0 _) 0
theorem ar187 {a b : Nat} (h0 : (1 : Nat) ≤ a) : ((0 : Nat) + ((a - (1 : Nat)) - b)) < a := by rw [Nat.zero_add]; exact Nat.lt_of_le_of_lt (Nat.sub_le _ _) (Nat.sub_lt h0 Nat.one_pos)
theorem ar188 {a b : Nat} (h0 : (1 : Nat) ≤ a) (h1 : a ≤ b) : (1 : Nat) ≤ b := Nat.le_trans h0 h1
theorem ar189 {a b c : Nat} (h0 : a ≤ b) (h1 : c ≤ (a + (b - a))) : c ≤ b := by rw [Nat.add_sub_cancel' h0] at h1; exact h1
theorem ar190 {a b c : Nat} (h0 : (a + (1 : Nat)) ≤ b) (h1 : b ≤ c) : ((a + (1 : Nat)) + (b - (a + (1 : Nat)))) ≤ c := by rw [Nat.add_sub_cancel' h0]; exact h1
theorem ar191 {a b c d : Nat} (h0 : (a + (1 : Nat)) ≤ b) (h1 : b ≤ c) (h2 : d ≤ ((a + (1 : Nat)) + (b - (a + (1 : Nat))))) : d ≤ c := by rw [Nat.add_sub_cancel' h0] at h2; exact Nat.le_trans h2 h1
theorem ar192 {a b : Nat} (h0 : (1 : Nat) ≤ a) (h1 : b ≤ ((1 : Nat) + (a - (1 : Nat)))) (h2 : ¬(b = a)) : b < ((1 : Nat) + (a - (1 : Nat))) := by rw [Nat.add_sub_cancel' h0] at h1 ⊢; exact Nat.lt_of_le_of_ne h1 h2
theorem ar193 {a b : Nat} (h0 : a < b) : a ≤ (b - (1 : Nat)) := Nat.le_sub_one_of_lt h0
theorem ar194 {a b c : Int} (h0 : ¬(a < b)) (h1 : a ≤ c) (h2 : c ≤ b) : c = b := Int.le_antisymm h2 (Int.le_trans (Int.not_lt.mp h0) h1)
theorem ar195 {a b c : Nat} (h0 : (1 : Nat) ≤ a) (h1 : a ≤ b) (h2 : c ≤ ((1 : Nat) + (a - (1 : Nat)))) : c ≤ b := by rw [Nat.add_sub_cancel' h0] at h2; exact Nat.le_trans h2 h1
theorem ar196 {a b c : Nat} (h0 : a ≤ b) (h1 : b < c) : a < c := Nat.lt_of_le_of_lt h0 h1
theorem ar197 {a b : Nat} {c d : Int} (h0 : (1 : Nat) ≤ a) (h1 : b ≤ ((1 : Nat) + (a - (1 : Nat)))) (h2 : (b < ((1 : Nat) + (a - (1 : Nat)))) → (c < d)) (h3 : ¬(b = a)) : c ≤ d := by rw [Nat.add_sub_cancel' h0] at h1 h2; exact Int.le_of_lt (h2 (Nat.lt_of_le_of_ne h1 h3))
theorem ar198 {a b : Nat} (h0 : (1 : Nat) ≤ a) (h1 : b ≤ ((1 : Nat) + (a - (1 : Nat)))) (h2 : ¬(b = a)) : (b + (1 : Nat)) ≤ a := by rw [Nat.add_sub_cancel' h0] at h1; exact Nat.lt_of_le_of_ne h1 h2
theorem ar199 {a : Nat} (h0 : (1 : Nat) ≤ a) (h1 : ¬(a > (1 : Nat))) : a = (1 : Nat) := Nat.le_antisymm (Nat.le_of_not_lt h1) h0
theorem ar200 {a : Nat} (h0 : (1 : Nat) ≤ a) (h1 : ¬((1 : Nat) = a)) : ((1 : Nat) + (1 : Nat)) ≤ a := Nat.lt_of_le_of_ne h0 h1
theorem ar201 {a : Nat} {b c : Int} (h0 : (1 : Nat) ≤ a) (h1 : ((1 : Nat) < ((1 : Nat) + (a - (1 : Nat)))) → (b < c)) (h2 : ¬((1 : Nat) = a)) : b ≤ c := by rw [Nat.add_sub_cancel' h0] at h1; exact Int.le_of_lt (h1 (Nat.lt_of_le_of_ne h0 h2))
theorem ar202 {a b : Nat} (h0 : (a - b) ≤ (0 : Nat)) (h1 : b ≤ a) : b = a := Nat.le_antisymm h1 (Nat.le_of_sub_eq_zero (Nat.le_zero.mp h0))
theorem ar203 {a b c : Nat} (h0 : (a - b) ≤ (c + (1 : Nat))) : (((b + a) / (2 : Nat)) - b) ≤ c := by lia
theorem ar204 {a b : Nat} (h0 : a ≤ b) : a ≤ ((a + b) / (2 : Nat)) := (Nat.le_div_iff_mul_le (by decide)).mpr (by rw [Nat.mul_two]; exact Nat.add_le_add_left h0 a)
theorem ar205 {a b c : Nat} (h0 : a ≤ b) (h1 : b ≤ c) : ((a + b) / (2 : Nat)) ≤ c := Nat.le_trans (Nat.div_le_of_le_mul (by rw [Nat.two_mul]; exact Nat.add_le_add_right h0 b)) h1
theorem ar206 {a b c : Nat} (h0 : (a - b) ≤ (c + (1 : Nat))) : (a - (((b + a) / (2 : Nat)) + (1 : Nat))) ≤ c := by lia
theorem ar207 {a b : Nat} (h0 : ¬(a ≥ b)) : (((a + b) / (2 : Nat)) + (1 : Nat)) ≤ b := (Nat.div_lt_iff_lt_mul (by decide)).mpr (by rw [Nat.mul_two]; exact Nat.add_lt_add_right (Nat.lt_of_not_le h0) b)
theorem ar208 {a b c : Nat} (h0 : a < (((b + c) / (2 : Nat)) + (1 : Nat))) : a ≤ ((b + c) / (2 : Nat)) := Nat.le_of_lt_succ h0
theorem ar209 {a b c : Nat} (h0 : a ≤ b) (h1 : ¬(c ≥ a)) : ((c + a) / (2 : Nat)) < b := Nat.lt_of_lt_of_le ((Nat.div_lt_iff_lt_mul (by decide)).mpr (by rw [Nat.mul_two]; exact Nat.add_lt_add_right (Nat.lt_of_not_le h1) a)) h0
theorem ar210 {a b c : Int} (h0 : ¬(a < b)) (h1 : c ≤ b) : c ≤ a := Int.le_trans h1 (Int.not_lt.mp h0)
theorem ar211 {a : Nat}  : (a - (0 : Nat)) ≤ a := Nat.sub_le a 0
theorem ar212 {a b : Nat} {c d : Int} (h0 : a ≤ b) (h1 : b < a) : c < d := absurd h1 (Nat.not_lt_of_le h0)
theorem ar213 {a b c : Nat} (h0 : (a + (b + (1 : Nat))) ≤ c) : a < c := Nat.lt_of_add_right_lt h0
theorem ar214 {a b : Nat}  : (a - b) ≤ a := Nat.sub_le a b
theorem ar215 {a b : Nat} (h0 : a ≤ b) : (b - (b - a)) = a := Nat.sub_sub_self h0
theorem ar216 {a b c d : Nat} (h0 : a ≤ b) (h1 : b < (c + (1 : Nat))) (h2 : a = d) (h3 : ¬(b = d)) : (d < b) ∧ (b ≤ c) := ⟨Nat.lt_of_le_of_ne (h2 ▸ h0) (Ne.symm h3), Nat.le_of_lt_succ h1⟩
theorem ar217 {a b c : Nat} (h0 : a ≤ b) (h1 : a = c) (h2 : ¬(b = c)) : c ≤ (b - (1 : Nat)) := Nat.le_sub_one_of_lt (Nat.lt_of_le_of_ne (h1 ▸ h0) (Ne.symm h2))
theorem ar218 {a b c : Nat} (h0 : a ≤ b) (h1 : c < (b + (1 : Nat))) (h2 : ¬(c = a)) : (c - (1 : Nat)) < b := by cases c with | zero => exact Nat.lt_of_lt_of_le (Nat.pos_of_ne_zero fun e => h2 e.symm) h0 | succ d => exact Nat.lt_of_succ_lt_succ h1
theorem ar219 {a b c d : Nat} (h0 : a ≤ b) (h1 : (c < a) ∧ (a ≤ d)) : ¬(b = c) := fun e => Nat.not_lt_of_le h0 (e ▸ h1.1)
theorem ar220 {a b c d : Nat} (h0 : a ≤ b) (h1 : b < (c + (1 : Nat))) (h2 : (d < a) ∧ (a ≤ c)) : (d < b) ∧ (b ≤ c) := ⟨Nat.lt_of_lt_of_le h2.1 h0, Nat.le_of_lt_succ h1⟩
theorem ar221 {a b : Nat} (h0 : a ≤ b) : (a - (1 : Nat)) ≤ (b - (1 : Nat)) := Nat.sub_le_sub_right h0 1
theorem ar222 {a b c d : Nat} (h0 : a ≤ b) (h1 : b < (c + (1 : Nat))) (h2 : ¬(a = d)) (h3 : ¬((d < a) ∧ (a ≤ c))) : a < d := Nat.lt_of_le_of_ne (Nat.le_of_not_lt fun g => h3 ⟨g, Nat.le_trans h0 (Nat.le_of_lt_succ h1)⟩) h2
theorem ar223 {a b c d : Nat} (h0 : a ≤ b) (h1 : ¬((c < a) ∧ (a ≤ d))) (h2 : (c < b) ∧ (b ≤ d)) : a ≤ (b - (1 : Nat)) := Nat.le_sub_one_of_lt (Nat.lt_of_le_of_ne h0 fun e => h1 (e ▸ h2))
theorem ar224 {a b c : Nat} (h0 : a ≤ b) (h1 : c < (b + (1 : Nat))) (h2 : ¬(c = a)) (h3 : ¬((a < c) ∧ (c ≤ b))) : c < b := Nat.lt_of_le_of_ne (Nat.le_of_lt_succ h1) fun e => h3 ⟨Nat.lt_of_le_of_ne (e ▸ h0) (Ne.symm h2), Nat.le_of_eq e⟩
theorem ar225 {a b : Nat}  : (a + (b + (1 : Nat))) = ((a + (1 : Nat)) + b) := Eq.symm (Nat.succ_add_eq_add_succ a b)
theorem ar226 {a : Nat} (h0 : (1 : Nat) ≤ a) : (max a (1 : Nat)) = a := Nat.max_eq_left h0
theorem ar227 {a b c : Nat} (h0 : a ≤ b) (h1 : c = b) : (a + (b - a)) ≤ c := by rw [Nat.add_sub_cancel' h0, h1]; exact Nat.le_refl _
theorem ar228 {a b : Nat} (h0 : a ≤ b) : b = (a + (b - a)) := Eq.symm (Nat.add_sub_of_le h0)
theorem ar229 {a b : Nat} (h0 : a ≤ b) (h1 : ¬(a < b)) : b = a := by lia
theorem ar230 {a : Int} {b : Nat}  : (Int.natAbs a) ≤ ((Int.natAbs a) + b) := Nat.le_add_right a.natAbs b
theorem ar231 {a : Int} {b : Nat} {c : Int} (h0 : (Int.natAbs a) ≤ b) : (Int.natAbs a) ≤ ((Int.natAbs c) + b) := Nat.le_add_left_of_le h0
theorem ar232 {a : Int} {b : Nat} {c d e : Int} (h0 : (Int.natAbs a) ≤ b) (h1 : (Int.natAbs c) ≤ b) (h2 : (d + (((2 : Int) * ((b : Nat) : Int)) + (1 : Int))) ≤ e) : (d + a) < (e + c) := Int.lt_of_lt_of_le (Int.add_lt_add_left (Int.lt_of_le_of_lt (Int.le_trans Int.le_natAbs (Int.ofNat_le.mpr h0)) (Int.lt_succ _)) d) (by rw [show d + ((b : Int) + 1) = d + (2 * (b : Int) + 1) - b by omega]; exact Int.le_trans (Int.sub_le_sub_right h2 _) (Int.add_le_add_left (Int.neg_le_of_neg_le (Int.le_trans (Int.le_natAbs (a := -c)) (by rw [Int.natAbs_neg]; exact Int.ofNat_le.mpr h1))) e))
theorem ar233 {a b c : Int}  : ((a + b) < (a + c)) ↔ (b < c) := Int.add_lt_add_iff_left a
theorem ar234 {a : Int} {b : Nat} {c d e : Int} (h0 : (Int.natAbs a) ≤ b) (h1 : (Int.natAbs c) ≤ b) (h2 : (d + (((2 : Int) * ((b : Nat) : Int)) + (1 : Int))) ≤ e) : ¬((e + a) < (d + c)) := by lia
theorem ar235 {a b : Int} (h0 : a < b) : ¬(b < a) := Int.lt_asymm h0
theorem ar236 {a b : Int} (h0 : a < b) : ¬(b = a) := Int.ne_of_gt h0
theorem ar237 {a b : Int} (h0 : a ≤ b) : a ≤ b := Int.le_def.mpr h0
theorem ar238 {a b c d : Int} (h0 : (a ≤ b) ∧ ((b = a) → (c ≤ d))) : (a < b) ∨ ((a = b) ∧ (c ≤ d)) := (Int.lt_or_eq_of_le h0.1).imp id fun e => ⟨e, h0.2 e.symm⟩
theorem ar239 {a b c : Nat} (h0 : a < b) (h1 : b = c) : a < c := ar39 h1 h0
theorem ar240 {a b c : Int} (h0 : a < b) (h1 : (0 : Int) ≤ c) : (a - c) < b := Int.lt_of_le_of_lt (Int.sub_le_self _ h1) h0
theorem ar241 {a b c : Int}  : (a + b) ≤ (max c (a + b)) := Int.le_max_right c (a + b)
theorem ar242 {a b c : Int}  : a ≤ (max a (b + c)) := Int.le_max_left a (b + c)
theorem ar243 {a b c : Int} (h0 : (0 : Int) ≤ a) : (0 : Int) ≤ (max a (b + c)) := Int.le_trans h0 (Int.le_max_left _ _)
theorem ar244 {a b c : Nat} (h0 : a < (0 : Nat)) : (b + (1 : Nat)) = c := by lia
theorem ar245 {a b : Nat} (h0 : a < b) : a ≠ b := Nat.ne_of_lt h0
theorem ar246 {a b c d e : Nat} (h0 : (a < b) → ((c + (1 : Nat)) = d)) (h1 : a < (b + (1 : Nat))) (h2 : ¬(a = b)) : ((c + e) + (1 : Nat)) = (d + e) := by rw [Nat.add_right_comm, h0 (Nat.lt_of_le_of_ne (Nat.le_of_lt_succ h1) h2)]
theorem ar247 {a b c : Nat} (h0 : a ≤ (b + c)) : a ≤ (b + (c + (1 : Nat))) := Nat.le_succ_of_le h0
theorem ar248 {a b c : Nat} (h0 : (a + (b + (1 : Nat))) = c) : c ≤ (a + (b + (1 : Nat))) := Nat.le_of_eq (id (Eq.symm h0))
theorem ar249 {a : Nat} (h0 : (0 : Nat) < a) : (a - (1 : Nat)) < a := ar25 h0
theorem ar250 {a : Int} {b : Nat} (h0 : (Int.toNat a) = b) (h1 : (0 : Nat) < b) : (0 : Int) ≤ (a - (1 : Int)) := Int.sub_nonneg_of_le (Int.pos_iff_toNat_pos.mpr (h0 ▸ h1))
theorem ar251 {a : Nat}  : a ≤ (a + (0 : Nat)) := Nat.le_add_right a 0
theorem ar252 {a : Int} {b : Nat} (h0 : (Int.toNat a) ≤ b) : (min (Int.toNat a) b) = (Int.toNat a) := ar100 h0 rfl
theorem ar253 {a : Int} {b : Nat} (h0 : (Int.toNat a) ≤ b) (h1 : b ≤ (1000000 : Nat)) : a < ((2 : Int) ^ (63 : Nat)) := Int.lt_of_le_of_lt (Int.self_le_toNat a) (Int.lt_of_le_of_lt (Int.ofNat_le.mpr (Nat.le_trans h0 h1)) (by decide))
theorem ar254 {a : Int} {b : Nat} (h0 : (Int.toNat a) < b) (h1 : b ≤ (1000000 : Nat)) : a < ((2 : Int) ^ (63 : Nat)) := Int.lt_of_le_of_lt (Int.self_le_toNat a) (Int.lt_trans (Int.ofNat_lt.mpr (Nat.lt_of_lt_of_le h0 h1)) (by decide))
theorem ar255 {a : Int} {b c : Nat} (h0 : (Int.toNat a) < b) (h1 : c = b) : (Int.toNat a) < c := ar39 (id (Eq.symm h1)) h0
theorem ar256 {a b : Nat} (h0 : (2 : Nat) ≤ a) (h1 : b = a) : (0 : Nat) < b := h1 ▸ Nat.lt_of_lt_of_le (by decide) h0
theorem ar257 {a b c d : Nat} (h0 : a ≤ (b + c)) (h1 : b ≤ (d + (1 : Nat))) : a ≤ (d + (c + (1 : Nat))) := Nat.le_trans h0 (by rw [← Nat.add_assoc, Nat.add_right_comm]; exact Nat.add_le_add_right h1 c)
theorem ar258 {a : Nat} (h0 : a ≤ (60 : Nat)) : ((a : Nat) : Int) ≤ (1000000 : Int) := Int.ofNat_le.mpr (Nat.le_trans h0 (by decide))
theorem ar259 {a b c : Nat} (h0 : a ≤ (min b c)) : a ≤ b := Nat.le_trans h0 (Nat.min_le_left _ _)
theorem ar260 {a b : Nat} (h0 : a < (64 : Nat)) (h1 : a = b) : b < (64 : Nat) := lt_of_eq_of_lt (id (Eq.symm h1)) h0
theorem ar261 {a : Nat} (h0 : a ≤ (90 : Nat)) : (a - (65 : Nat)) < (26 : Nat) := Nat.lt_of_le_of_lt (Nat.sub_le_sub_right h0 65) (by decide)
theorem ar262 {a : Nat} (h0 : (65 : Nat) ≤ a) : a = ((65 : Nat) + (a - (65 : Nat))) := Eq.symm (Nat.add_sub_of_le h0)
theorem ar263   : (1 : Nat) ≤ (16777216 : Nat) := Nat.le_of_ble_eq_true rfl
theorem ar264 {a : Nat}  : ((97 : Nat) + a) = (((65 : Nat) + a) + (32 : Nat)) := by lia
theorem ar265 {a b : Nat} (h0 : a < b) : a < b := Nat.lt_of_succ_le h0
theorem ar266 {a b : Int} (h0 : a ≤ b) : ¬(b < a) := Int.not_lt_of_ge h0
theorem ar267 {a : Nat}  : (0 : Nat) < (a + (1 : Nat)) := Nat.zero_lt_succ a
theorem ar268 {a b : Nat} (h0 : a < b) : (a + (1 : Nat)) < (b + (1 : Nat)) := Nat.add_lt_add_right h0 1
theorem ar269 {a b : Nat} (h0 : a ≤ b) : (a + (1 : Nat)) ≤ (b + (1 : Nat)) := Nat.add_le_add_right h0 1
theorem ar270 {a b c : Nat} (h0 : a = b) (h1 : c ≤ b) : c ≤ a := le_of_le_of_eq h1 (id (Eq.symm h0))
theorem ar271 {a b c : Nat} (h0 : a ≤ b) (h1 : (c + b) < (400 : Nat)) : (c + a) < (400 : Nat) := Nat.lt_of_le_of_lt (Nat.add_le_add_left h0 _) h1
theorem ar272 {a b c : Nat} (h0 : a ≤ b) (h1 : (c + ((10 : Nat) * b)) < (1000 : Nat)) : (c + ((10 : Nat) * a)) < (1000 : Nat) := Nat.lt_of_le_of_lt (Nat.add_le_add_left (Nat.mul_le_mul_left _ h0) _) h1
theorem ar273 {a b : Nat} (h0 : (a + (b + (1 : Nat))) < (400 : Nat)) : ((a + (1 : Nat)) + b) < (400 : Nat) := by rw [Nat.add_right_comm]; exact h0
theorem ar274 {a b : Nat} (h0 : (a + ((10 : Nat) * (b + (1 : Nat)))) < (1000 : Nat)) : ((a + (3 : Nat)) + ((10 : Nat) * b)) < (1000 : Nat) := Nat.lt_of_le_of_lt (by rw [Nat.mul_succ, Nat.add_assoc, Nat.add_comm 3]; exact Nat.add_le_add_left (Nat.add_le_add_left (by decide) _) a) h0
theorem ar275 {a b c : Nat} (h0 : a = b) (h1 : b ≤ c) : a ≤ c := le_of_eq_of_le h0 h1
theorem ar276 {a b : Int}  : a = ((b - b) + a) := by rw [Int.sub_self, Int.zero_add]
theorem ar277 {a b c d e f : Int} (h0 : a = ((b - c) + d)) (h1 : (e - a) = (f - b)) : e = ((f - c) + d) := by subst h0; omega
theorem ar278 {a b : Nat} (h0 : a ≤ b) : (a + (1 : Nat)) ≤ ((1 : Nat) + b) := Nat.sub_le_iff_le_add'.mp h0
theorem ar279 {a b c : Nat} (h0 : a < b) (h1 : a = c) : c < b := lt_of_eq_of_lt (id (Eq.symm h1)) h0
theorem ar280 {a b c : Nat} (h0 : ((a + b) + (1 : Nat)) < c) (h1 : c = (4096 : Nat)) : a ≤ (16777216 : Nat) := Nat.le_trans (Nat.le_trans (Nat.le_add_right a b) (Nat.le_of_lt (Nat.lt_of_succ_lt (h1 ▸ h0)))) (by decide)
theorem ar281 {a b c : Nat} (h0 : ((a + b) + (1 : Nat)) < c) (h1 : c = (4096 : Nat)) : b ≤ ((2 : Nat) ^ (24 : Nat)) := Nat.le_trans (Nat.le_trans (Nat.le_add_left b a) (Nat.le_of_lt (Nat.lt_of_succ_lt (h1 ▸ h0)))) (by decide)
theorem ar282 {a b c : Nat} (h0 : ((a + b) + (1 : Nat)) < c) (h1 : c = (4096 : Nat)) : (a + b) ≤ (16777216 : Nat) := Nat.le_trans (Nat.le_of_lt (Nat.lt_of_succ_lt (h1 ▸ h0))) (by decide)
theorem ar283 {a b c : Nat} (h0 : ((a + b) + (1 : Nat)) < c) : ((a + b) + (1 : Nat)) < c := Nat.lt_of_succ_le h0
theorem ar284 {a b c : Nat} (h0 : a ≤ b) (h1 : (b + (1 : Nat)) < c) : a ≤ c := Nat.le_of_lt (Nat.lt_of_le_of_lt h0 (Nat.lt_of_succ_lt h1))
theorem ar285 {a b : Nat} (h0 : a < b) : ((a : Nat) : Int) < ((b : Nat) : Int) := Int.ofNat_lt.mpr h0
theorem ar286 {a b : Nat} (h0 : a ≤ (1000 : Nat)) (h1 : b ≤ a) : ((b : Nat) : Int) < ((2 : Int) ^ (63 : Nat)) := Int.ofNat_lt.mpr (Nat.lt_of_le_of_lt h1 (Nat.lt_of_le_of_lt h0 (by decide)))
theorem ar287 {a b : Nat} (h0 : ¬(a < b)) : ¬(((a : Nat) : Int) < ((b : Nat) : Int)) := fun g => h0 (Int.ofNat_lt.mp g)
theorem ar288 {a : Nat} (h0 : a ≤ (63 : Nat)) : a ≤ (1000000 : Nat) := by lia
theorem ar289 {a : Nat} (h0 : a ≤ (60 : Nat)) : ((1 : Nat) + a) ≤ (1000000 : Nat) := by lia
theorem ar290 {a : Nat} (h0 : a ≤ (1000 : Nat)) : ((1 : Nat) + a) ≤ (1000000 : Nat) := Nat.le_trans (Nat.add_le_add_left h0 1) (by decide)
theorem ar291 {a : Nat} {b c : Int} (h0 : (0 : Nat) = (a + (1 : Nat))) : b ≤ c := by lia
theorem ar292 {a b : Nat} (h0 : (a + (1 : Nat)) = (b + (1 : Nat))) : a = b := Nat.add_right_cancel h0
theorem ar293 {a b : Int} (h0 : (-a) < (-b)) : b < a := Int.lt_of_neg_lt_neg h0
theorem ar294 {a b c : Nat} (h0 : a ≤ b) (h1 : c < a) : c < (min a b) := Nat.lt_min.mpr ⟨h1, Nat.lt_of_lt_of_le h1 h0⟩
theorem ar295 {a b : Nat} {c d : Int} (h0 : a < b) (h1 : (-c) ≤ (-d)) : d ≤ c := Int.le_of_neg_le_neg h1
theorem ar296 {a b : Nat} {c d e f g : Int} (h0 : a < b) (h1 : (-c) ≤ (-d)) (h2 : (e < d) ∧ (f < g)) : e ≤ c := Int.le_of_lt (Int.lt_of_lt_of_le h2.1 (Int.neg_le_neg_iff.mp h1))
theorem ar297 {a b : Nat} (h0 : ¬(a < b)) : b = (min b a) := (Nat.min_eq_left (Nat.le_of_not_lt h0)).symm
theorem ar298 {a b : Int} (h0 : (0 : Int) < a) (h1 : a < b) : (0 : Int) < b := Int.lt_trans h0 h1
theorem ar299 {a b c d : Int} (h0 : (a < b) ∧ (c < d)) : a ≤ b := Int.le_of_lt h0.1
theorem ar300 {a b c d : Nat} (h0 : a = b) (h1 : c = d) (h2 : (b + d) ≤ (100000 : Nat)) : (a + c) ≤ (16777216 : Nat) := h0 ▸ h1 ▸ Nat.le_trans h2 (by decide)
theorem ar301 {a : Nat} (h0 : a ≤ (16 : Nat)) : a ≤ (16 : Nat) := String.Pos.Raw.mk_le_mk.mp h0
theorem ar302 {a b c : Nat} (h0 : (a + (b + (c + (1 : Nat)))) ≤ (100000 : Nat)) : (a + (b + (1 : Nat))) ≤ (100000 : Nat) := by lia
theorem ar303 {a : Nat} (h0 : a ≤ (16 : Nat)) (h1 : ¬((a + (1 : Nat)) = (17 : Nat))) : a ≤ (15 : Nat) := Nat.le_of_lt_succ (Nat.lt_of_le_of_ne h0 fun e => h1 (congrArg (· + 1) e))
theorem ar304 {a : Nat} (h0 : a ≤ (16 : Nat)) : a ≤ (17 : Nat) := Nat.le_succ_of_le h0
theorem ar305 {a b : Nat} (h0 : (a + (b + (1 : Nat))) ≤ (100 : Nat)) : a ≤ (16777216 : Nat) := Nat.le_trans (Nat.le_trans (Nat.le_add_right a _) h0) (by decide)
theorem ar306 {a b c : Nat} (h0 : a ≤ b) (h1 : b < c) : a ≤ c := by lia
theorem ar307 {a b : Int} (h0 : a < b) : a ≠ b := Int.ne_of_lt h0
theorem ar308 {a b c d : Int} (h0 : a < b) (h1 : (b ≤ c) ∧ ((0 : Int) ≤ d)) : (a ≤ c) ∧ ((0 : Int) ≤ d) := ⟨Int.le_trans (Int.le_of_lt h0) h1.1, h1.2⟩
theorem ar309 {a b : Int} (h0 : (0 : Int) ≤ a) : (0 : Int) ≤ (max a b) := Int.le_trans h0 (Int.le_max_left _ _)
theorem ar310 {a b : Int}  : a ≤ (max b a) := Int.le_max_right b a
theorem ar311 {a b c : Int} (h0 : a ≤ b) : a ≤ (max b c) := Int.le_trans h0 (Int.le_max_left _ _)
theorem ar312 {a b : Nat} (h0 : a = b) (h1 : (0 : Nat) < b) : (-((a : Nat) : Int)) ≤ (-(1 : Int)) := by subst h0; exact Int.neg_le_neg (Int.ofNat_le.mpr h1)
theorem ar313 {a b : Nat} (h0 : a = b) : (Int.toNat ((-(1 : Int)) + ((a : Nat) : Int))) = (b - (1 : Nat)) := by subst h0; rw [Int.add_comm]; exact Int.toNat_sub' a 1
theorem ar314 {a : Int} (h0 : (0 : Int) ≤ a) : (-((2 : Int) ^ (63 : Nat))) ≤ a := Int.le_trans (by decide) h0
theorem ar315 {a : Int} {b : Nat} (h0 : (Int.toNat a) < b) : a < ((b : Nat) : Int) := Int.lt_of_toNat_lt h0
theorem ar316 {a b : Nat} (h0 : (a + b) ≤ (5 : Nat)) : a < (6 : Nat) := by lia
theorem ar317 {a b : Nat} (h0 : (a + b) ≤ (5 : Nat)) : b < (6 : Nat) := Nat.lt_succ_of_le (Nat.le_trans (Nat.le_add_left b a) h0)
theorem ar318 {a b c : Nat} (h0 : ((a + b) + c) ≤ (5 : Nat)) : a < (6 : Nat) := Nat.lt_succ_of_le (Nat.le_trans (Nat.le_add_right _ _) (Nat.le_trans (Nat.le_add_right _ _) h0))
theorem ar319 {a b c : Nat} (h0 : ((a + b) + c) ≤ (5 : Nat)) : b < (6 : Nat) := Nat.lt_succ_of_le (Nat.le_trans (Nat.le_add_left b a) (Nat.le_trans (Nat.le_add_right _ c) h0))
theorem ar320 {a b c : Nat} (h0 : ((a + b) + c) ≤ (5 : Nat)) : c < (6 : Nat) := by lia
theorem ar321 {a b : Nat} (h0 : (1 : Nat) ≤ a) : (1 : Nat) ≤ (a + (b + (0 : Nat))) := Nat.le_add_right_of_le h0
theorem ar322 {a b : Nat} (h0 : (a + (b + (0 : Nat))) ≤ (5 : Nat)) : (a + b) ≤ (5 : Nat) := String.Pos.Raw.mk_le_mk.mp h0
theorem ar323 {a b c : Nat} (h0 : (1 : Nat) ≤ a) : (1 : Nat) ≤ (a + (b + (c + (0 : Nat)))) := Nat.le_add_right_of_le h0
theorem ar324 {a b c : Nat} (h0 : (a + (b + (c + (0 : Nat)))) ≤ (5 : Nat)) : ((a + b) + c) ≤ (5 : Nat) := by rw [Nat.add_assoc]; exact h0
theorem ar325 {a b : Nat} (h0 : a ≤ b) : (min a b) = a := Nat.min_eq_left h0
theorem ar326 {a b : Nat} (h0 : a = (b + (1 : Nat))) : b ≤ a := Nat.le.intro (id (Eq.symm h0))
theorem ar327 {a b : Nat} (h0 : (a < b) ∨ ((a = (b + (2 : Nat))) ∨ ((b + (5 : Nat)) < a))) (h1 : (a = (b + (5 : Nat))) ∨ ((a = (b + (4 : Nat))) ∨ ((a = (b + (3 : Nat))) ∨ ((a = b) ∨ (a = (b + (1 : Nat))))))) : False := by lia
theorem ar328 {a b c : Nat} (h0 : (a + (5 : Nat)) < b) (h1 : (c = (a + (5 : Nat))) ∨ ((c = (a + (4 : Nat))) ∨ ((c = (a + (3 : Nat))) ∨ ((c = a) ∨ (c = (a + (1 : Nat))))))) : c < b := by rcases h1 with rfl | rfl | rfl | rfl | rfl <;> first | exact h0 | exact Nat.lt_of_le_of_lt (Nat.add_le_add_left (by decide) a) h0 | exact Nat.lt_of_le_of_lt (Nat.le_add_right _ _) h0
theorem ar329 {a : Nat}  : (a + (3 : Nat)) ≠ (a + (5 : Nat)) := by lia
theorem ar330 {a : Nat}  : (a + (5 : Nat)) ≠ (a + (4 : Nat)) := Ne.symm ar42
theorem ar331 {a : Nat}  : (a + (5 : Nat)) ≠ (a + (3 : Nat)) := by lia
theorem ar332 {a : Nat}  : (a + (5 : Nat)) ≠ a := by lia
theorem ar333 {a : Nat}  : (a + (5 : Nat)) ≠ (a + (1 : Nat)) := by lia
theorem ar334 {a : Nat}  : ((a + (2 : Nat)) < a) ∨ (((a + (2 : Nat)) = (a + (2 : Nat))) ∨ ((a + (5 : Nat)) < (a + (2 : Nat)))) := .inr (.inl rfl)
theorem ar335 {a : Nat} (h0 : (0 : Nat) < a) : ((1 : Nat) + (a - (1 : Nat))) = a := Nat.add_sub_of_le h0
theorem ar336 {a b : Nat} (h0 : (a + (5 : Nat)) < b) : a ≤ b := by lia
theorem ar337 {a b : Nat} (h0 : (a + (5 : Nat)) < b) : a ≤ (b + (1 : Nat)) := Nat.le_trans (Nat.le_trans (Nat.le_add_right a 5) (Nat.le_of_lt h0)) (Nat.le_succ b)
theorem ar338   : (0 : Nat) ≤ ((16777216 : Nat) + (1 : Nat)) := Nat.le_add_left 0 (16777216 + 1)
theorem ar339 {a b : Nat} (h0 : a = (b + (5 : Nat))) : b ≤ a := Nat.le.intro (id (Eq.symm h0))
theorem ar340 {a b : Nat} (h0 : a ≤ ((100 : Nat) * b)) : (a + (0 : Nat)) ≤ ((100 : Nat) * (b + (1 : Nat))) := Nat.le_trans h0 (Nat.mul_le_mul_left 100 (Nat.le_succ b))
theorem ar341 {a b c d : Nat} (h0 : a ≤ ((100 : Nat) * b)) (h1 : c ≤ (100 : Nat)) (h2 : d = c) : (a + d) ≤ ((100 : Nat) * (b + (1 : Nat))) := Nat.add_le_add h0 (h2 ▸ h1)
theorem ar342 {a b c d : Nat} (h0 : a ≤ (1000 : Nat)) (h1 : b = a) (h2 : c < b) (h3 : d ≤ ((100 : Nat) * c)) : d ≤ (999999 : Nat) := Nat.le_trans h3 (Nat.le_trans (Nat.mul_le_mul_left 100 (Nat.le_of_lt (Nat.lt_of_lt_of_le h2 (h1 ▸ h0)))) (by decide))
theorem ar343 {a b c d e : Nat} (h0 : a ≤ (1000 : Nat)) (h1 : b = a) (h2 : c < b) (h3 : d ≤ ((100 : Nat) * c)) (h4 : e ≤ (100 : Nat)) : ((d + (1 : Nat)) + e) ≤ (1000000 : Nat) := Nat.le_trans (Nat.add_le_add (Nat.succ_le_succ (Nat.le_trans h3 (Nat.mul_le_mul_left 100 (Nat.le_of_lt (Nat.lt_of_lt_of_le h2 (h1 ▸ h0)))))) h4) (by decide)
theorem ar344 {a b c d : Nat} (h0 : a = b) (h1 : c = a) (h2 : d = b) : c = d := by lia
theorem ar345 {a b : Nat} (h0 : (0 : Nat) < a) (h1 : b = a) : (0 : Nat) < b := Nat.lt_of_lt_of_eq h0 (id (Eq.symm h1))
theorem ar346 {a b : Nat} (h0 : a ≤ (1000000 : Nat)) (h1 : b = a) : b ≤ (1000000 : Nat) := by lia
theorem ar347 {a b : Nat} (h0 : a ≤ (60 : Nat)) : a ≤ ((60 : Nat) + (b + (1 : Nat))) := Nat.le_add_right_of_le h0
theorem ar348 {a : Nat} (h0 : a ≤ (61 : Nat)) : a ≤ (1000000 : Nat) := by lia
theorem ar349 {a b c : Nat} (h0 : a ≤ b) (h1 : c < a) : (b - (c + (1 : Nat))) < b := Nat.sub_lt (Nat.lt_of_lt_of_le (Nat.zero_lt_of_lt h1) h0) (Nat.succ_pos _)
theorem ar350 {a b c : Nat} (h0 : a ≤ b) (h1 : c < a) : (b - c) = ((b - (c + (1 : Nat))) + (1 : Nat)) := by rw [← Nat.sub_sub, Nat.sub_add_cancel (Nat.sub_pos_of_lt (Nat.lt_of_lt_of_le h1 h0))]
theorem ar351 {a b : Nat}  : ((a - (1 : Nat)) - b) = (a - (b + (1 : Nat))) := by rw [Nat.sub_sub, Nat.add_comm]
theorem ar352 {a b c d e : Nat} (h0 : a ≤ (60 : Nat)) (h1 : b ≤ a) (h2 : c = b) (h3 : d ≤ c) : d ≤ ((1000000 : Nat) + (e + (1 : Nat))) := Nat.le_trans h3 (h2 ▸ Nat.le_trans h1 (Nat.le_trans h0 (Nat.le_trans (by decide) (Nat.le_add_right _ _))))
theorem ar353 {a b c d e : Nat} (h0 : a ≤ (60 : Nat)) (h1 : b ≤ a) (h2 : c = b) (h3 : d ≤ c) : (min e d) ≤ (1000000 : Nat) := Nat.le_trans (Nat.min_le_right _ _) (Nat.le_trans h3 (h2 ▸ Nat.le_trans h1 (Nat.le_trans h0 (by decide))))
theorem ar354 {a b : Nat} (h0 : a ≤ (3 : Nat)) : (min a b) ≤ (3 : Nat) := Nat.le_trans (Nat.min_le_left _ _) h0
theorem ar355 {a b c : Nat} (h0 : a ≤ (60 : Nat)) (h1 : b ≤ a) (h2 : c = b) : ((c : Nat) : Int) ≤ (1000000 : Int) := Int.ofNat_le.mpr (h2 ▸ Nat.le_trans h1 (Nat.le_trans h0 (by decide)))
theorem ar356 {a : Int} {b : Nat} (h0 : ((0 : Int) ≤ a) ∧ ((Int.toNat a) < b)) : (Int.toNat a) < b := h0.2
theorem ar357 {a b c d e : Nat} (h0 : a ≤ (60 : Nat)) (h1 : b ≤ a) (h2 : c = b) (h3 : d ≤ c) : d ≤ ((1000000 : Nat) + e) := Nat.le_trans h3 (h2 ▸ Nat.le_trans h1 (Nat.le_trans h0 (Nat.le_trans (by decide) (Nat.le_add_right _ _))))
theorem ar358 {a b c : Nat} {d : Int} (h0 : a ≤ (60 : Nat)) (h1 : b ≤ a) (h2 : c = b) (h3 : ((0 : Int) ≤ d) ∧ ((Int.toNat d) < c)) : d < ((2 : Int) ^ (63 : Nat)) := Int.lt_of_le_of_lt (Int.self_le_toNat d) (Int.lt_trans (Int.ofNat_lt.mpr (Nat.lt_of_lt_of_le h3.2 (h2 ▸ Nat.le_trans h1 h0))) (by decide))
theorem ar359 {a : Int} {b c : Nat} (h0 : ((0 : Int) ≤ a) ∧ ((Int.toNat a) < b)) (h1 : c = b) : (Int.toNat a) < c := h1 ▸ h0.2
theorem ar360 {a b c d : Nat} (h0 : a ≤ (60 : Nat)) (h1 : b ≤ a) (h2 : c = b) (h3 : d ≤ c) : d ≤ (100 : Nat) := Nat.le_trans h3 (h2 ▸ Nat.le_trans h1 (Nat.le_trans h0 (by decide)))
theorem ar361 {a b c : Nat} (h0 : a ≤ (60 : Nat)) (h1 : b ≤ a) (h2 : c = b) : c ≤ (1000 : Nat) := h2 ▸ Nat.le_trans h1 (Nat.le_trans h0 (by decide))
theorem ar362 {a b : Nat} (h0 : a < b) : a < (b + (5 : Nat)) := Nat.lt_add_right 5 h0
theorem ar363 {a : Nat} (h0 : a ≤ (1000000 : Nat)) : ¬(((a : Nat) : Int) ≥ ((2 : Int) ^ (63 : Nat))) := Int.not_le_of_gt (Int.ofNat_lt.mpr (Nat.lt_of_le_of_lt h0 (by decide)))
theorem ar364 {a : Int} (h0 : (0 : Int) ≤ a) (h1 : a ≤ (1114111 : Int)) : ((0 : Int) ≤ a) ∧ (a ≤ (1114111 : Int)) := ⟨h0, h1⟩
theorem ar365 {a b : Int} (h0 : a > b) : (max b a) = a := Int.max_eq_right (Int.le_of_lt h0)
theorem ar366 {a b : Int} (h0 : ¬(a > b)) : (max b a) = b := Int.max_eq_left (Int.le_of_not_gt h0)
theorem ar367 {a b : Int} (h0 : a < b) : (min b a) = a := Int.min_eq_right (Int.le_of_lt h0)
theorem ar368 {a b : Int} (h0 : ¬(a < b)) : (min b a) = b := Int.min_eq_left (Int.le_of_not_gt h0)
theorem ar369 {a b : Nat} (h0 : (a + ((10 : Nat) * b)) < (1000 : Nat)) : a < (9900 : Nat) := Nat.lt_of_le_of_lt (Nat.le_add_right _ _) (Nat.lt_trans h0 (by decide))
theorem ar370 {a b : Nat} (h0 : a = (2 : Nat)) (h1 : b < a) : (b = (0 : Nat)) ∨ (b = (1 : Nat)) := by subst h0; exact (Nat.lt_or_eq_of_le (Nat.le_of_lt_succ h1)).imp Nat.lt_one_iff.mp id
theorem ar371 {a b : Nat} (h0 : (a + ((10 : Nat) * b)) < (1000 : Nat)) : (a + (1 : Nat)) < (9900 : Nat) := Nat.lt_of_le_of_lt (Nat.succ_le_succ (Nat.le_add_right a (10 * b))) (Nat.lt_trans (Nat.succ_lt_succ h0) (by decide))
theorem ar372 {a b c : Nat} (h0 : a = (0 : Nat)) (h1 : b = (c + (1 : Nat))) : ¬(b = a) := by rw [h0, h1]; exact Nat.succ_ne_zero c
theorem ar373 {a b : Nat} (h0 : (a + b) ≤ (1000000 : Nat)) : (a + b) ≤ (16777216 : Nat) := by lia
theorem ar374 {a : Int} (h0 : (0 : Int) ≤ a) (h1 : a ≤ (1000000 : Int)) : ((-(9223372036854775808 : Int)) ≤ a) ∧ (a < (9223372036854775808 : Int)) := ⟨Int.le_trans (by decide) h0, Int.lt_of_le_of_lt h1 (by decide)⟩
theorem ar375 {a : Int} (h0 : a ≤ (1000000 : Int)) : ¬(((1 : Nat) * (Int.toNat a)) > ((((2 : Nat) ^ (63 : Nat)) - (1 : Nat)) / (8 : Nat))) := Nat.not_lt_of_le (by rw [Nat.one_mul]; exact Nat.le_trans (Int.toNat_le.mpr h0) (by decide))
theorem ar376 {a : Int} (h0 : a ≤ (1000000 : Int)) : a ≤ (16777216 : Int) := Int.le_trans h0 (by decide)
theorem ar377 {a b : Nat} (h0 : (a + b) ≤ (1000000 : Nat)) : a ≤ (16777216 : Nat) := by lia
theorem ar378 {a b : Nat} (h0 : (a + b) ≤ (1000000 : Nat)) : (a + b) ≤ ((16777216 : Nat) + (1 : Nat)) := by lia
theorem ar379 {a : Nat} (h0 : a ≤ (1000000 : Nat)) : (a + (1 : Nat)) ≤ (16777216 : Nat) := Nat.le_trans (Nat.succ_le_succ h0) (by decide)
theorem ar380 {a b : Nat} (h0 : a = (b + (1 : Nat))) : (a - (1 : Nat)) < a := by subst h0; exact Nat.lt_succ_self b
theorem ar381 {a : Nat}  : a ≤ ((a - (1 : Nat)) + (1 : Nat)) := Nat.le_add_of_sub_le (Nat.le_refl _)
theorem ar382 {a b : Nat} (h0 : a ≠ b) (h1 : a ≥ b) : a = ((a - (b + (1 : Nat))) + (b + (1 : Nat))) := (Nat.sub_add_cancel (Nat.lt_of_le_of_ne h1 (Ne.symm h0))).symm
theorem ar383 {a : Nat} (h0 : (a % (2 : Nat)) ≠ (1 : Nat)) : ((a + (1 : Nat)) / (2 : Nat)) = (a / (2 : Nat)) := by lia
theorem ar384 {a b : Nat} (h0 : a ≥ b) : a = (b + (a - b)) := Eq.symm (Nat.add_sub_of_le h0)
theorem ar385 {a b : Nat}  : ((a + b) - a) = b := Nat.add_sub_self_left a b
theorem ar386 {a : Nat}  : ¬((((a : Nat) : Int) + (1 : Int)) = (0 : Int)) := not_eq_of_beq_eq_false rfl
theorem ar387 {a : Int} {b : Nat} {c : Int} (h0 : (0 : Int) ≤ a) (h1 : (Int.toNat a) ≥ b) (h2 : (Int.toNat c) = b) : (0 : Int) ≤ (a - c) := Int.sub_nonneg_of_le (Int.le_trans (Int.self_le_toNat c) (Int.le_trans (Int.ofNat_le.mpr (h2 ▸ h1)) (Int.le_of_eq (Int.toNat_of_nonneg h0))))
theorem ar388 {a : Int} {b : Nat} {c : Int} (h0 : (0 : Int) ≤ a) (h1 : (Int.toNat a) = b) : (Int.toNat (c - a)) = ((Int.toNat c) - b) := by subst h1; obtain ⟨n, rfl⟩ := Int.eq_ofNat_of_zero_le h0; exact Int.toNat_sub' c n
theorem ar389   : (2 : Nat) > (0 : Nat) := Nat.zero_lt_two
theorem ar390 {a b : Int} {c d : Nat} (h0 : a < b) (h1 : (Int.toNat b) = c) (h2 : c ≤ d) (h3 : (0 : Nat) < c) : (Int.toNat a) < d := Nat.lt_of_lt_of_le ((Int.toNat_lt_toNat (Int.pos_iff_toNat_pos.mpr (h1 ▸ h3))).mpr h0) (h1 ▸ h2)
theorem ar391 {a : Int} {b : Nat} (h0 : (Int.toNat a) = b) : (Int.toNat (a - (1 : Int))) = (b - (1 : Nat)) := by subst h0; exact Int.toNat_sub' a 1
theorem ar392 {a b : Int} (h0 : (0 : Int) ≤ a) (h1 : (0 : Int) ≤ b) (h2 : (Int.toNat a) = (Int.toNat b)) : a = b := (Int.toNat_of_nonneg h0).symm.trans ((congrArg Int.ofNat h2).trans (Int.toNat_of_nonneg h1))
theorem ar393 {a b : Nat} (h0 : a ≤ ((1 : Nat) + b)) : a ≤ ((1 : Nat) + (b + (1 : Nat))) := ar17 h0
theorem ar394 {a : Int}  : (0 : Int) ≤ ((65013 : Int) + ((a / (8 : Int)) % (27 : Int))) := Int.add_nonneg (by decide) (Int.emod_nonneg _ (by decide))
theorem ar395 {a : Int}  : ((65013 : Int) + ((a / (8 : Int)) % (27 : Int))) ≤ (1114111 : Int) := Int.le_trans (Int.add_le_add_left (Int.le_of_lt (Int.emod_lt_of_pos _ (by decide))) _) (by decide)
theorem ar396 {a : Int}  : (0 : Int) ≤ ((12272 : Int) + ((a / (8 : Int)) % (12 : Int))) := Int.add_nonneg (by decide) (Int.emod_nonneg _ (by decide))
theorem ar397 {a : Int}  : ((12272 : Int) + ((a / (8 : Int)) % (12 : Int))) ≤ (1114111 : Int) := Int.le_trans (Int.add_le_add_left (Int.le_of_lt (Int.emod_lt_of_pos _ (by decide))) _) (by decide)
theorem ar399 {a b c : Int} (h0 : (a > (0 : Int)) ∧ (((b + a) + c) ≤ (5 : Int))) : (b + (a + c)) ≤ (5 : Int) := by rw [← Int.add_assoc]; exact h0.2
theorem ar400 {a b c : Nat} (h0 : a ≤ ((1 : Nat) + ((3 : Nat) * b))) (h1 : c ≤ (3 : Nat)) : (a + c) ≤ ((1 : Nat) + ((3 : Nat) * (b + (1 : Nat)))) := by lia
theorem ar401 {a : Nat} {b : Int} (h0 : ((a : Nat) : Int) ≤ b) : (0 : Int) ≤ (b - ((a : Nat) : Int)) := Int.sub_nonneg_of_le h0
theorem ar402 {a : Int} {b : Nat} (h0 : (0 : Int) ≤ a) : (0 : Int) ≤ (a + ((b : Nat) : Int)) := Int.add_nonneg h0 (Int.natCast_nonneg b)
theorem ar403 {a b : Int} {c : Nat} (h0 : (a + b) ≤ (5 : Int)) : ((a + ((c : Nat) : Int)) + (b - ((c : Nat) : Int))) ≤ (5 : Int) := by rw [Int.add_assoc, Int.add_comm (c : Int), Int.sub_add_cancel]; exact h0
theorem ar404 {a : Int} (h0 : a > (0 : Int)) : (0 : Int) ≤ (a - (1 : Int)) := Int.sub_nonneg_of_le h0
theorem ar405 {a : Int} (h0 : (0 : Int) ≤ a) : (0 : Int) ≤ (a + (1 : Int)) := Int.le_add_one h0
theorem ar406 {a b : Int} (h0 : (a + b) ≤ (5 : Int)) : ((a + (1 : Int)) + (b - (1 : Int))) ≤ (5 : Int) := by rw [Int.add_assoc, Int.add_comm 1, Int.sub_add_cancel]; exact h0
theorem ar407 {a b : Int} (h0 : ((0 : Int) ≤ a) ∧ (a ≤ (120432 : Int))) : (0 : Int) ≤ (a + ((b / (8 : Int)) % (26 : Int))) := Int.add_nonneg h0.1 (Int.emod_nonneg _ (by decide))
theorem ar408 {a b : Int} (h0 : ((0 : Int) ≤ a) ∧ (a ≤ (120432 : Int))) : (a + ((b / (8 : Int)) % (26 : Int))) ≤ (1114111 : Int) := Int.le_trans (Int.add_le_add h0.2 (Int.le_of_lt (Int.emod_lt_of_pos _ (by decide)))) (by decide)
theorem ar409 {a : Nat} {b : Int} (h0 : a ≤ (1000 : Nat)) (h1 : ((0 : Int) ≤ b) ∧ ((Int.toNat b) < a)) : b < ((2 : Int) ^ (63 : Nat)) := Int.lt_trans ((Int.toNat_lt h1.1).mp h1.2) (Int.lt_of_le_of_lt (Int.ofNat_le.mpr h0) (by decide))
theorem ar410 {a b c d e f : Nat} (h0 : a ≤ (3 : Nat)) (h1 : b < a) (h2 : c ≤ ((100 : Nat) * b)) (h3 : d ≤ (100 : Nat)) (h4 : e = (c + (min f d))) : e ≤ (1000 : Nat) := h4 ▸ Nat.le_trans (Nat.add_le_add (Nat.le_trans h2 (Nat.mul_le_mul_left 100 (Nat.le_of_lt (Nat.lt_of_lt_of_le h1 h0)))) (Nat.le_trans (Nat.min_le_right _ _) h3)) (by decide)
theorem ar411 {a b c : Nat} (h0 : a ≤ ((100 : Nat) * b)) (h1 : c ≤ (100 : Nat)) : (a + c) ≤ ((100 : Nat) * (b + (1 : Nat))) := Nat.add_le_add h0 h1
theorem ar412 {a b : Nat} (h0 : a ≤ (3 : Nat)) (h1 : b ≤ ((100 : Nat) * a)) : b ≤ (300 : Nat) := Nat.le_trans h1 (Nat.mul_le_mul_left 100 h0)
theorem ar413 {a b c : Nat} (h0 : a ≤ (300 : Nat)) (h1 : b < a) (h2 : c ≤ b) : c ≤ (1000 : Nat) := Nat.le_trans h2 (Nat.le_of_lt (Nat.lt_of_lt_of_le h1 (Nat.le_trans h0 (by decide))))
theorem ar414 {a b c : Nat} (h0 : a ≤ (300 : Nat)) (h1 : b < a) (h2 : c ≤ b) : c ≤ (1000000 : Nat) := Nat.le_trans h2 (Nat.le_of_lt (Nat.lt_of_lt_of_le h1 (Nat.le_trans h0 (by decide))))
theorem ar415 {a b : Nat} (h0 : a ≤ (300 : Nat)) (h1 : b ≤ a) : b ≤ (1000 : Nat) := Nat.le_trans h1 (Nat.le_trans h0 (by decide))
theorem ar416 {a b c d e f g h : Nat}  : ((((0 : Nat) + a) + b) + (((c + d) + e) + (f + (g + h)))) = ((c + b) + (f + ((((d + g) + e) + a) + h))) := by lia
theorem ar417 {a b c d e f g : Nat}  : ((a + b) + (c + (((d + e) + f) + g))) = ((((a + d) + f) + (c + (e + b))) + g) := by lia
theorem ar418 {a b c : Nat} (h0 : a ≤ b) (h1 : b ≤ (1000000 : Nat)) : (min a c) ≤ (1000000 : Nat) := Nat.le_trans (Nat.min_le_left _ _) (Nat.le_trans h0 h1)
theorem ar419 {a b c : Nat} (h0 : a ≤ b) (h1 : c = (b + (1 : Nat))) : a ≤ c := by lia
theorem ar420 {a b c : Nat} (h0 : a = (b + (1 : Nat))) (h1 : c < b) : c < a := h0 ▸ Nat.lt_succ_of_lt h1
theorem ar421 {a b c d : Nat} (h0 : a ≤ b) (h1 : b < c) (h2 : d = (c + (1 : Nat))) : a ≤ d := h2 ▸ Nat.le_succ_of_le (Nat.le_of_lt (Nat.lt_of_le_of_lt h0 h1))
theorem ar422   : (3 : Nat) ≤ (3 : Nat) := Nat.le_of_ble_eq_true rfl
theorem ar423   : (2 : Nat) ≤ (3 : Nat) := Nat.le_of_ble_eq_true rfl
theorem ar424   : (0 : Nat) ≤ (3 : Nat) := Nat.zero_le 3
theorem ar425 {a b c : Nat}  : ((a + b) + c) = (a + (b + c)) := Nat.add_assoc a b c
theorem ar426 {a b c : Nat} (h0 : a ≤ (b + (1 : Nat))) : (a + c) ≤ (b + (c + (1 : Nat))) := by lia
theorem ar427 {a b c : Nat} (h0 : a ≤ b) (h1 : b = ((0 : Nat) + c)) : (a + (1 : Nat)) ≤ (c + (1 : Nat)) := Nat.succ_le_succ (by rw [Nat.zero_add] at h1; exact h1 ▸ h0)
theorem ar428 {a b c : Nat} (h0 : a ≤ b) : a ≤ (b + c) := Nat.le_add_right_of_le h0
theorem ar429 {a : Int} {b : Nat} (h0 : ((0 : Int) ≤ a) ∧ ((Int.toNat a) < b)) : ((0 : Int) ≤ a) ∧ ((Int.toNat a) < (b + (1 : Nat))) := ⟨h0.1, Nat.lt_succ_of_lt h0.2⟩
theorem ar430 {a : Nat}  : ((0 : Int) ≤ ((a : Nat) : Int)) ∧ ((Int.toNat ((a : Nat) : Int)) < (a + (1 : Nat))) := ⟨Int.natCast_nonneg a, Nat.lt_succ_self a⟩
theorem ar431 {a : Nat} (h0 : (Int.toNat ((a : Nat) : Int)) < a) : False := Nat.lt_irrefl _ h0
theorem ar432 {a b c d e : Nat} (h0 : a = (b + c)) (h1 : d ≤ (c + (1 : Nat))) (h2 : a ≤ e) : d ≤ (e + (1 : Nat)) := Nat.le_trans h1 (Nat.succ_le_succ (Nat.le_trans (Nat.le_add_left _ _) (h0 ▸ h2)))
theorem ar433 {a b c d e : Nat} (h0 : a = (b + c)) (h1 : d ≤ (c + (1 : Nat))) (h2 : a ≤ e) : (b + (d + (0 : Nat))) ≤ (e + (1 : Nat)) := by rw [h0] at h2; rw [Nat.add_zero]; exact Nat.le_trans (Nat.add_le_add_left h1 b) (Nat.succ_le_succ h2)
theorem ar434 {a b c : Nat} (h0 : a ≤ (5 : Nat)) (h1 : (b ≤ a) ∧ (a = (b + c))) : b ≤ (5 : Nat) := Nat.le_trans h1.1 h0
theorem ar435 {a b : Nat}  : a ≤ ((b - (1 : Nat)) + a) := Nat.le_add_left a (b - 1)
theorem ar436 {a b c d e : Nat} (h0 : a ≤ (5 : Nat)) (h1 : (b ≤ a) ∧ (a = (b + c))) (h2 : d = b) (h3 : e ≤ (d + c)) : e ≤ (5 : Nat) := by rw [h2, ← h1.2] at h3; exact Nat.le_trans h3 h0
theorem ar437 {a b c d : Nat} (h0 : (0 : Nat) < a) (h1 : b = ((a - (1 : Nat)) + c)) (h2 : d = ((b - c) + (1 : Nat))) : d = a := by subst h1 h2; rw [Nat.add_sub_cancel, Nat.sub_add_cancel h0]
theorem ar438 {a b c d e : Nat} (h0 : (a ≤ b) ∧ (b = (a + c))) (h1 : d = a) (h2 : e = (d + c)) : e = b := h2.trans (h1 ▸ h0.2.symm)
theorem ar439 {a b : Nat} (h0 : a < b) : a ≤ b := Nat.le_of_succ_le h0
theorem ar440 {a b : Nat} (h0 : a < (b + (1 : Nat))) (h1 : b ≤ a) : a = b := Nat.eq_of_le_of_lt_succ h1 h0
theorem ar441 {a b c : Nat} (h0 : a = b) (h1 : a = (c + (1 : Nat))) : c = (b - (1 : Nat)) := by subst h0 h1; rfl
theorem ar442 {a b : Nat} (h0 : a = b) (h1 : (0 : Nat) < b) : (b - (1 : Nat)) < a := by subst h0; exact Nat.sub_lt h1 Nat.one_pos
theorem ar443 {a b c : Nat} (h0 : a ≤ (60 : Nat)) (h1 : b = a) (h2 : c ≤ b) : c ≤ (1000 : Nat) := Nat.le_trans h2 (h1 ▸ Nat.le_trans h0 (by decide))
theorem ar444 {a b : Nat} (h0 : a ≤ b) (h1 : b ≤ (56 : Nat)) : a < (64 : Nat) := Nat.lt_of_le_of_lt h0 (Nat.lt_of_le_of_lt h1 (by decide))
theorem ar445 {a : Nat} (h0 : a ≤ (1000000 : Nat)) : a ≤ (1000000 : Nat) := by lia
theorem ar446 {a : Nat}  : ((min (9 : Nat) a) + ((9 : Nat) - (min (9 : Nat) a))) ≤ (1000000 : Nat) := by rw [Nat.add_sub_cancel' (Nat.min_le_left 9 a)]; exact by decide
theorem ar447 {a : Nat}  : ((min (9 : Nat) a) + ((9 : Nat) - (min (9 : Nat) a))) ≤ (18 : Nat) := by rw [Nat.add_sub_cancel' (Nat.min_le_left 9 a)]; exact by decide
theorem ar448 {a b : Nat} (h0 : a ≤ (18 : Nat)) : (min b a) ≤ (18 : Nat) := Nat.le_trans (Nat.min_le_right _ _) h0
theorem ar449 {a : Int}  : (0 : Int) ≤ ((a / (8 : Int)) % (27 : Int)) := Int.emod_nonneg _ (by decide)
theorem ar450 {a : Int}  : ((a / (8 : Int)) % (27 : Int)) < ((2 : Int) ^ (63 : Nat)) := Int.lt_trans (Int.emod_lt_of_pos _ (by decide)) (by decide)
theorem ar451 {a : Int} (h0 : ((a / (8 : Int)) % (27 : Int)) < (11 : Int)) : (Int.toNat ((a / (8 : Int)) % (27 : Int))) < (11 : Nat) := (Int.toNat_lt (Int.emod_nonneg _ (by decide))).mpr h0
theorem ar452 {a b c : Nat} (h0 : a ≤ (18 : Nat)) (h1 : b ≤ ((1 : Nat) + ((3 : Nat) * a))) (h2 : c ≤ (3 : Nat)) : (b + c) ≤ (1000000 : Nat) := Nat.le_trans (Nat.add_le_add (Nat.le_trans h1 (Nat.add_le_add_left (Nat.mul_le_mul_left 3 h0) 1)) h2) (by decide)
theorem ar453 {a : Int}  : (0 : Int) ≤ (((a / (8 : Int)) / (26 : Int)) % (11 : Int)) := Int.emod_nonneg _ (by decide)
theorem ar454 {a : Int}  : (((a / (8 : Int)) / (26 : Int)) % (11 : Int)) < ((2 : Int) ^ (63 : Nat)) := Int.lt_trans (Int.emod_lt_of_pos _ (by decide)) (by decide)
theorem ar455 {a b : Nat} {c d : Int} (h0 : a ≤ (18 : Nat)) (h1 : b ≤ ((1 : Nat) + a)) (h2 : (0 : Int) ≤ c) (h3 : (c + d) ≤ (5 : Int)) : (b + (Int.toNat d)) ≤ (1000000 : Nat) := by lia
theorem ar456 {a b : Nat} {c d : Int} (h0 : a ≤ (18 : Nat)) (h1 : b ≤ ((1 : Nat) + ((3 : Nat) * a))) (h2 : (0 : Int) ≤ c) (h3 : (c + d) ≤ (5 : Int)) : (b + (Int.toNat d)) ≤ (1000000 : Nat) := by lia
theorem ar457 {a : Int} (h0 : a = (71 : Int)) : ((0 : Int) ≤ a) ∧ (a ≤ (1114111 : Int)) := h0 ▸ by decide
theorem ar458 {a b : Nat} {c d : Int} (h0 : a ≤ (18 : Nat)) (h1 : b ≤ ((1 : Nat) + a)) (h2 : (0 : Int) ≤ c) (h3 : (c + d) ≤ (5 : Int)) : (b + (Int.toNat d)) ≤ (100 : Nat) := by lia
theorem ar459 {a : Nat} (h0 : ¬(a ≤ (63 : Nat))) : (63 : Int) < ((a : Nat) : Int) := Int.ofNat_lt.mpr (Nat.lt_of_not_le h0)
theorem ar460 {a b c d : Int} (h0 : a ≤ b) (h1 : (b < a) ∨ ((b = a) ∧ (c ≤ d))) : b = a := h1.elim (fun g => absurd h0 (Int.not_le_of_gt g)) And.left
theorem ar461 {a b c d : Int} (h0 : a ≤ b) (h1 : c ≤ d) (h2 : (b < a) ∨ ((b = a) ∧ (d ≤ c))) : d = c := h2.elim (fun g => absurd h0 (Int.not_le_of_gt g)) fun g => Int.le_antisymm g.2 h1
theorem ar462 {a b c d : Int} (h0 : (a < b) ∧ (c < d)) (h1 : (b < a) ∨ ((b = a) ∧ (c ≤ d))) : False := h1.elim (fun g => Int.lt_irrefl _ (Int.lt_trans g h0.1)) fun g => Int.lt_irrefl _ (g.1 ▸ h0.1)
theorem ar463 {a b c d : Int} (h0 : (a < b) ∧ (c < d)) : c ≤ d := Int.le_of_lt h0.2
theorem ar464 {a b c : Int} (h0 : a < b) (h1 : b ≤ c) (h2 : c ≤ a) : False := by lia
theorem ar465 {a b : Nat} {c d : Int} {e : Nat} {f g h : Int} (h0 : a < b) (h1 : c ≤ d) (h2 : e < b) (h3 : f ≤ c) (h4 : (d < f) ∧ (g < h)) : False := Int.not_le_of_gt h4.1 (Int.le_trans h3 h1)
theorem ar466 {a b : Nat} {c d : Int} {e : Nat} {f g h : Int} (h0 : a < b) (h1 : c ≤ d) (h2 : e < b) (h3 : f ≤ c) (h4 : (g < h) ∧ (d < f)) : False := Int.not_le_of_gt h4.2 (Int.le_trans h3 h1)
theorem ar467 {a b : Nat} (h0 : a = b) : b = (a - (0 : Nat)) := Nat.eq_sub_of_add_eq (id (Eq.symm h0))
theorem ar468 {a b c : Nat} (h0 : a = b) (h1 : a ≤ c) : b ≤ c := le_of_eq_of_le (id (Eq.symm h0)) h1
theorem ar469 {a b : Nat} (h0 : ((a : Nat) : Int) < ((b : Nat) : Int)) : a < b := Int.ofNat_lt.mp h0
theorem ar470 {a b : Nat}  : ((((a : Nat) : Int) + ((b : Nat) : Int)) / (2 : Int)) = ((((a + b) / (2 : Nat)) : Nat) : Int) := Eq.symm (Nat.ToInt.div_congr rfl rfl)
theorem ar471 {a b c : Nat} (h0 : ((a : Nat) : Int) < ((b : Nat) : Int)) (h1 : ((a + b) / (2 : Nat)) = c) : c < b := h1 ▸ (Nat.div_lt_iff_lt_mul (by decide)).mpr (by rw [Nat.mul_two]; exact Nat.add_lt_add_right (Int.ofNat_lt.mp h0) b)
theorem ar472 {a b c d : Nat} (h0 : a ≤ b) (h1 : ((c : Nat) : Int) < ((a : Nat) : Int)) (h2 : ((c + a) / (2 : Nat)) = d) : d < b := ar8 rfl h0 h1 h2
theorem ar473 {a b c d : Nat} (h0 : a ≤ (1000 : Nat)) (h1 : b ≤ c) (h2 : c ≤ a) (h3 : ((b + c) / (2 : Nat)) = d) : ((d : Nat) : Int) < ((2 : Int) ^ (63 : Nat)) := Int.ofNat_lt.mpr (Nat.lt_of_le_of_lt (h3 ▸ Nat.le_trans (Nat.div_le_of_le_mul (by rw [Nat.two_mul]; exact Nat.add_le_add_right h1 c)) (Nat.le_trans h2 h0)) (by decide))
theorem ar474 {a b c : Nat} (h0 : ((a : Nat) : Int) < ((b : Nat) : Int)) (h1 : ((a + b) / (2 : Nat)) = c) : (b - (c + (1 : Nat))) < (b - a) := Nat.sub_lt_sub_left (Int.ofNat_lt.mp h0) (Nat.lt_succ_of_le (h1 ▸ (Nat.le_div_iff_mul_le (by decide)).mpr (by rw [Nat.mul_two]; exact Nat.add_le_add_left (Nat.le_of_lt (Int.ofNat_lt.mp h0)) a)))
theorem ar475 {a b c : Nat} (h0 : ((a : Nat) : Int) < ((b : Nat) : Int)) (h1 : ((a + b) / (2 : Nat)) = c) : (c + (1 : Nat)) ≤ b := h1 ▸ (Nat.div_lt_iff_lt_mul (by decide)).mpr (by rw [Nat.mul_two]; exact Nat.add_lt_add_right (Int.ofNat_lt.mp h0) b)
theorem ar476 {a b : Nat} (h0 : a < (b + (1 : Nat))) : a ≤ b := Nat.le_of_lt_succ h0
theorem ar477 {a b : Nat} {c d e : Int} (h0 : a < b) (h1 : c < d) (h2 : e ≤ c) : e < d := Int.lt_of_le_of_lt h2 h1
theorem ar478 {a b c : Nat} (h0 : ((a : Nat) : Int) < ((b : Nat) : Int)) (h1 : ((a + b) / (2 : Nat)) = c) : (c - a) < (b - a) := Nat.sub_lt_sub_right (h1 ▸ (Nat.le_div_iff_mul_le (by decide)).mpr (by rw [Nat.mul_two]; exact Nat.add_le_add_left (Nat.le_of_lt (Int.ofNat_lt.mp h0)) a)) (h1 ▸ (Nat.div_lt_iff_lt_mul (by decide)).mpr (by rw [Nat.mul_two]; exact Nat.add_lt_add_right (Int.ofNat_lt.mp h0) b))
theorem ar479 {a b c d : Nat} (h0 : a ≤ b) (h1 : b ≤ c) (h2 : ((a + b) / (2 : Nat)) = d) : d ≤ c := h2 ▸ Nat.le_trans (Nat.div_le_of_le_mul (by rw [Nat.two_mul]; exact Nat.add_le_add_right h0 b)) h1
theorem ar480 {a b : Nat} {c d e : Int} (h0 : a < b) (h1 : ¬(c < d)) (h2 : c ≤ e) : d ≤ e := by lia
theorem ar481 {a b : Nat} (h0 : a ≤ b) (h1 : ¬(((a : Nat) : Int) < ((b : Nat) : Int))) : a = b := Nat.le_antisymm h0 (Nat.le_of_not_lt fun g => h1 (Int.ofNat_lt.mpr g))
theorem ar482 {a b : Nat} (h0 : (a + (0 : Nat)) = b) : a = b := Nat.add_right_cancel h0
theorem ar483 {a b : Nat} (h0 : (a + (0 : Nat)) = b) : b ≤ a := Nat.le_of_eq (id (Eq.symm h0))
theorem ar484 {a b c : Nat} (h0 : (a + (b + (1 : Nat))) = c) : a < c := h0 ▸ Nat.lt_add_of_pos_right (Nat.succ_pos b)
theorem ar485 {a b c d : Nat} (h0 : a = b) (h1 : (c + (d + (1 : Nat))) = a) : c < b := by rw [← h0, ← h1]; exact Nat.lt_add_of_pos_right (Nat.succ_pos d)
theorem ar486 {a b c : Nat} (h0 : (a + (b + (1 : Nat))) = c) : ((a + (1 : Nat)) + b) = c := by rw [Nat.add_right_comm]; exact h0
theorem ar487 {a b c : Nat} (h0 : a ≤ (1000000 : Nat)) (h1 : (b + (c + (1 : Nat))) = a) : b ≤ (16777216 : Nat) := Nat.le_trans (Nat.le_trans (Nat.le_add_right b _) (h1 ▸ h0)) (by decide)
theorem ar488 {a b c : Nat} (h0 : a ≤ (1000000 : Nat)) (h1 : (b + (c + (1 : Nat))) = a) : (b + (1 : Nat)) ≤ ((16777216 : Nat) + (1 : Nat)) := by lia
theorem ar489 {a : Int} (h0 : a = (0 : Int)) : (0 : Int) = a := Int.neg_inj.mp (congrArg Neg.neg (id (Eq.symm h0)))
theorem ar490 {a b : Int} (h0 : a ≤ b) (h1 : b < a) : False := by lia
theorem ar491 {a b c d : Int} (h0 : (a < b) ∧ (c < d)) : (c - b) < (d - a) := Int.lt_trans (Int.sub_lt_sub_left h0.1 c) (Int.sub_lt_sub_right h0.2 a)
theorem ar492 {a b c d : Nat} (h0 : a ≤ b) (h1 : c = a) (h2 : c = d) : d ≤ b := h2 ▸ h1 ▸ h0
theorem ar493 {a : Nat}  : (a + (1 : Nat)) ≤ (a + (1 : Nat)) := ar93 rfl
theorem ar494 {a b c : Nat} (h0 : a = b) (h1 : a = c) (h2 : b ≠ (0 : Nat)) : c ≠ (0 : Nat) := h1 ▸ h0 ▸ h2
theorem ar495 {a b c d e : Nat} (h0 : (a + b) ≤ c) (h1 : d ≤ (a + e)) (h2 : e ≤ b) : d ≤ c := Nat.le_trans h1 (Nat.le_trans (Nat.add_le_add_left h2 a) h0)
theorem ar496 {a : Nat}  : ((((((a : Nat) : Int) - (0 : Int)) - (1 : Int)) / (1 : Int)) + (1 : Int)) = ((a : Nat) : Int) := by lia
theorem ar497 {a : Nat} (h0 : ¬((0 : Int) < ((a : Nat) : Int))) : (0 : Int) = ((a : Nat) : Int) := Int.le_antisymm (Int.natCast_nonneg a) (Int.not_lt.mp h0)
theorem ar498 {a : Nat} (h0 : ¬((1 : Int) > (0 : Int))) : (((((0 : Int) - ((a : Nat) : Int)) - (1 : Int)) / (-(1 : Int))) + (1 : Int)) = ((a : Nat) : Int) := by lia
theorem ar499 {a : Nat} (h0 : ¬((1 : Int) > (0 : Int))) : (0 : Int) = ((a : Nat) : Int) := by lia
theorem ar500 {a : Int} (h0 : (0 : Int) ≤ a) (h1 : a ≤ (1000001 : Int)) : ((-(9223372036854775808 : Int)) ≤ a) ∧ (a < (9223372036854775808 : Int)) := ⟨Int.le_trans (by decide) h0, Int.lt_of_le_of_lt h1 (by decide)⟩
theorem ar501   : (0 : Int) ≤ (0 : Int) := Int.zero_le_ofNat 0
theorem ar502   : (0 : Int) ≤ (1000001 : Int) := Int.zero_le_ofNat 1000001
theorem ar503   : (0 : Int) ≤ (1 : Int) := Int.one_nonneg
theorem ar504   : (1 : Int) ≤ (1000001 : Int) := Int.le.intro_sub (1000001 - Nat.succ 0) rfl
theorem ar505 {a : Nat} (h0 : a ≤ (1000000 : Nat)) : ((a : Nat) : Int) ≤ (1000001 : Int) := Int.ofNat_le.mpr (Nat.le_trans h0 (by decide))
theorem ar506 {a b : Nat} (h0 : a < b) : (0 : Int) < (((b : Nat) : Int) - ((a : Nat) : Int)) := Int.sub_pos_of_lt (Int.ofNat_lt.mpr h0)
theorem ar507 {a b : Nat}  : (((a : Nat) : Int) - (((b : Nat) : Int) + (1 : Int))) = ((((a : Nat) : Int) - ((b : Nat) : Int)) - (1 : Int)) := Eq.symm (Int.sub_sub (↑a) (↑b) 1)
theorem ar508 {a : Nat}  : (((a : Nat) : Int) - ((a : Nat) : Int)) ≤ (0 : Int) := Int.le_of_eq (Int.sub_self _)
theorem ar509 {a b c d e f g : Int} (h0 : (a + b) ≤ c) (h1 : d ≤ c) (h2 : e ≤ d) (h3 : f ≤ e) (h4 : g = b) : (max f (a + g)) ≤ c := Int.max_le.mpr ⟨Int.le_trans h3 (Int.le_trans h2 h1), h4 ▸ h0⟩
theorem ar510 {a b c : Nat} (h0 : (a + b) = c) : b ≤ c := h0 ▸ Nat.le_add_left b a
theorem ar511 {a b : Nat}  : ((a + (1 : Nat)) + b) = ((a + b) + (1 : Nat)) := Nat.add_right_comm a 1 b
theorem ar512 {a b : Nat} (h0 : a < b) : b = (a + (((b - a) - (1 : Nat)) + (1 : Nat))) := by rw [Nat.sub_add_cancel (Nat.sub_pos_of_lt h0), Nat.add_sub_cancel' (Nat.le_of_lt h0)]
end Mine
end
section
open PySem PySem.W PyProof.Rows
set_option Elab.async false
set_option linter.unusedVariables false
namespace Mine

/-- abstract values -/
inductive AV where
  | none
  | bool (b : Bool)
  | int (i : Int)
  | str (s : Str)
  | tup (l : List AV)
  | lst (l : List AV)
  | ref (i : Nat)
  | rng (n : Nat)
  | dct (ks : List Int) (vs : List AV)
  | iset (S : Int → Bool)
  | bi (id : String)
  | ty (n : String)
  | fn (f : String)
  | lam (p : Arguments) (b : Expr) (sc : Scope)
  deriving Inhabited

/-- mutable objects of the ledger -/
inductive MO where
  | gone
  | list (l : List AV)
  | dict (l : List (Int × AV))
  deriving Inhabited

abbrev Fz := Addr → Option Obj
abbrev Ent := Addr × (Obj → Prop)

def Fz.le (Z Z' : Fz) : Prop := ∀ a o, Z a = some o → Z' a = some o
theorem Fz.le.refl (Z : Fz) : Z.le Z := fun _ _ e => e
theorem Fz.le.trans {Z Z' Z'' : Fz} (x : Z.le Z') (y : Z'.le Z'') : Z.le Z'' := fun a o e => y a o (x a o e)
def Fz.put (Z : Fz) (a : Addr) (o : Obj) : Fz := fun b => if b = a then some o else Z b
theorem Fz.le.put {Z : Fz} {a : Addr} {o : Obj} (h : Z a = Option.none) : Z.le (Z.put a o) := fun b x e => by
  unfold Fz.put; split
  · rename_i q; subst q; rw [h] at e; cases e
  · exact e
theorem Fz.put_self (Z : Fz) (a : Addr) (o : Obj) : Z.put a o a = some o := by simp [Fz.put]
theorem Fz.put_ne (Z : Fz) {a b : Addr} (o : Obj) (h : b ≠ a) : Z.put a o b = Z b := by simp [Fz.put, h]

/-- a def's code and its table of codes within -/
structure Tab where
  c : Addr
  P : Addr
  q : Str

set_option genInjectivity false in
/-- what is known from the top -/
structure Base where
  prog : Program
  w : World
  H : Heap
  mg : Str → Option Value
  mb : Str → Option Value
  os : OsState
  fn : String → Option Addr
  tabs : List Tab
  last : ∃ (b : Nat) (o : Obj), H.get? b = some o ∧ H.objs.size = b + 1
  gNs : H.Ns mainNs mg
  bNs : H.Ns builtinsNs mb
  lim : H.NoLimit
  lo : sysModules < H.objs.size
  bm : ∃ bm ob, mg "__builtins__" = some (.ref bm) ∧ bm ≠ builtinsNs ∧ bm ≠ mainNs ∧ (∀ t ∈ tabs, t.P ≠ bm) ∧ H.get? bm = some ob ∧ ob.cls = .type "module" ∧ ob.dict = some builtinsNs ∧ ob.data = .plain
  tn : ∀ t ∈ tabs, ∀ t' ∈ tabs, t.c ≠ t'.P ∧ (t.P = t'.P → t = t')
  tb : ∀ t ∈ tabs, ∃ ps, H.TableAt t.c t.P ps
  fnO : ∀ f a, fn f = some a → (∃ o fd, H.get? a = some o ∧ o.data = .func fd) ∧ ∀ t ∈ tabs, t.P ≠ a
  nt : ∀ t ∈ tabs, t.P ≠ mainNs ∧ t.P ≠ builtinsNs ∧ t.P ≠ cStatics

/-- the code record, in the frozen part -/
def ZCode (Z : Fz) (cd : Value) (q : Str) : Prop := ∃ c o vs t, cd = .ref c ∧ Z c = some o ∧ o.data = .fields vs ∧ vs[1]? = some (.str q t)
theorem ZCode.mono {Z Z' : Fz} {cd q} (h : ZCode Z cd q) (l : Z.le Z') : ZCode Z' cd q := let ⟨c, o, vs, t, a, b, r⟩ := h; ⟨c, o, vs, t, a, l _ _ b, r⟩

structure LamFd (Z : Fz) (fd : FuncData) (p : Arguments) (b : Expr) (sc : Scope) : Prop where
  params : fd.params = p
  body : fd.body = .expr b
  scope : fd.scope = sc
  globals : fd.globals = mainNs
  closure : fd.closure = []
  builtins : fd.builtins = builtinsNs
  dflt : fd.defaults = .none
  kwd : fd.kwdefaults = .none
  code : ZCode Z fd.code fd.qualname
theorem LamFd.mono {Z Z' : Fz} {fd p b sc} (h : LamFd Z fd p b sc) (l : Z.le Z') : LamFd Z' fd p b sc := { h with code := h.code.mono l }

mutual
inductive RelV (B : Base) (Z : Fz) (φ : List Addr) : Value → AV → Prop
  | none : RelV B Z φ .none .none
  | bool (b) : RelV B Z φ (.bool b) (.bool b)
  | int (i t) : RelV B Z φ (.int i t) (.int i)
  | str (s t) : RelV B Z φ (.str s t) (.str s)
  | tup {a o items n l} : Z a = some o → o.cls = .type "tuple" → o.data = .seq items n → RelVs B Z φ items.toList l → RelV B Z φ (.ref a) (.tup l)
  | lst {a items n l} : Z a = some { cls := .type "list", data := .seq items n } → RelVs B Z φ items.toList l → RelV B Z φ (.ref a) (.lst l)
  | ref {a i} : φ[i]? = some a → RelV B Z φ (.ref a) (.ref i)
  | rng {a n t u v} : Z a = some { cls := .type "range", dict := Option.none, data := .fields #[.int 0 t, .int (n : Nat) u, .int 1 v], slots := #[] } → RelV B Z φ (.ref a) (.rng n)
  | dct {a o kvs ks l} : Z a = some o → o.IsDictOf (intKind B.prog B.w) kvs → (a == sysModules) = false → kvs.map (·.1) = ks → RelVs B Z φ (kvs.map (·.2)) l → RelV B Z φ (.ref a) (.dct ks l)
  | iset {a o S n} : Z a = some o → (∀ h : Heap, h.get? a = some o → h.SetOf (intKind B.prog B.w) a S n) → RelV B Z φ (.ref a) (.iset S)
  | bi (id) : RelV B Z φ (.builtin id) (.bi id)
  | ty (n) : RelV B Z φ (.type n) (.ty n)
  | fn {f a} : B.fn f = some a → RelV B Z φ (.ref a) (.fn f)
  | lam {a o fd p b sc} : Z a = some o → o.data = .func fd → LamFd Z fd p b sc → RelV B Z φ (.ref a) (.lam p b sc)
inductive RelVs (B : Base) (Z : Fz) (φ : List Addr) : List Value → List AV → Prop
  | nil : RelVs B Z φ [] []
  | cons {v vs a as} : RelV B Z φ v a → RelVs B Z φ vs as → RelVs B Z φ (v :: vs) (a :: as)
end

/-! what a value is, by its abstract value: the cases are gone through here once -/
section
variable {B : Base} {Z : Fz} {φ : List Addr} {v : Value}
inductive TupI (B : Base) (Z : Fz) (φ : List Addr) (v : Value) (l : List AV) : Prop
  | mk : ∀ a o items n, v = .ref a → Z a = some o → o.cls = .type "tuple" → o.data = .seq items n → RelVs B Z φ items.toList l → TupI B Z φ v l
inductive DctI (B : Base) (Z : Fz) (φ : List Addr) (v : Value) (ks : List Int) (l : List AV) : Prop
  | mk : ∀ a o kvs, v = .ref a → Z a = some o → o.IsDictOf (intKind B.prog B.w) kvs → (a == sysModules) = false → kvs.map (·.1) = ks → RelVs B Z φ (kvs.map (·.2)) l → DctI B Z φ v ks l
def RelVI (B : Base) (Z : Fz) (φ : List Addr) (v : Value) : AV → Prop
  | .none => v = .none
  | .bool b => v = .bool b
  | .int i => ∃ t, v = .int i t
  | .str s => ∃ t, v = .str s t
  | .tup l => TupI B Z φ v l
  | .lst l => ∃ a items n, v = .ref a ∧ Z a = some { cls := .type "list", data := .seq items n } ∧ RelVs B Z φ items.toList l
  | .ref i => ∃ a, v = .ref a ∧ φ[i]? = some a
  | .rng n => ∃ a t u w, v = .ref a ∧ Z a = some { cls := .type "range", dict := Option.none, data := .fields #[.int 0 t, .int (n : Nat) u, .int 1 w], slots := #[] }
  | .dct ks l => DctI B Z φ v ks l
  | .iset S => ∃ a o n, v = .ref a ∧ Z a = some o ∧ (∀ h : Heap, h.get? a = some o → h.SetOf (intKind B.prog B.w) a S n)
  | .bi id => v = .builtin id
  | .ty n => v = .type n
  | .fn f => ∃ a, v = .ref a ∧ B.fn f = some a
  | .lam p b sc => ∃ a o fd, v = .ref a ∧ Z a = some o ∧ o.data = .func fd ∧ LamFd Z fd p b sc
theorem RelV.inv {a : AV} (h : RelV B Z φ v a) : RelVI B Z φ v a := by
  cases h with
  | none => rfl
  | bool => rfl
  | int i t => exact ⟨t, rfl⟩
  | str s t => exact ⟨t, rfl⟩
  | tup h1 h2 h3 h4 => exact ⟨_, _, _, _, rfl, h1, h2, h3, h4⟩
  | lst h1 h2 => exact ⟨_, _, _, rfl, h1, h2⟩
  | ref h => exact ⟨_, rfl, h⟩
  | rng h => exact ⟨_, _, _, _, rfl, h⟩
  | dct h1 h2 h3 h4 h5 => exact ⟨_, _, _, rfl, h1, h2, h3, h4, h5⟩
  | iset h1 h2 => exact ⟨_, _, _, rfl, h1, h2⟩
  | bi => rfl
  | ty => rfl
  | fn h => exact ⟨_, rfl, h⟩
  | lam h1 h2 h3 => exact ⟨_, _, _, rfl, h1, h2, h3⟩
theorem RelV.none_i (h : RelV B Z φ v .none) : v = .none := h.inv
theorem RelV.bool_i {b} (h : RelV B Z φ v (.bool b)) : v = .bool b := h.inv
theorem RelV.int_i {i} (h : RelV B Z φ v (.int i)) : ∃ t, v = .int i t := h.inv
theorem RelV.str_i {s} (h : RelV B Z φ v (.str s)) : ∃ t, v = .str s t := h.inv
theorem RelV.tup_i {l} (h : RelV B Z φ v (.tup l)) : TupI B Z φ v l := h.inv
theorem RelV.lst_i {l} (h : RelV B Z φ v (.lst l)) : ∃ a items n, v = .ref a ∧ Z a = some { cls := .type "list", data := .seq items n } ∧ RelVs B Z φ items.toList l := h.inv
theorem RelV.ref_i {i} (h : RelV B Z φ v (.ref i)) : ∃ a, v = .ref a ∧ φ[i]? = some a := h.inv
theorem RelV.rng_i {n} (h : RelV B Z φ v (.rng n)) : ∃ a t u w, v = .ref a ∧ Z a = some { cls := .type "range", dict := Option.none, data := .fields #[.int 0 t, .int (n : Nat) u, .int 1 w], slots := #[] } := h.inv
theorem RelV.dct_i {ks l} (h : RelV B Z φ v (.dct ks l)) : DctI B Z φ v ks l := h.inv
theorem RelV.iset_i {S} (h : RelV B Z φ v (.iset S)) : ∃ a o n, v = .ref a ∧ Z a = some o ∧ (∀ h : Heap, h.get? a = some o → h.SetOf (intKind B.prog B.w) a S n) := h.inv
theorem RelV.bi_i {id} (h : RelV B Z φ v (.bi id)) : v = .builtin id := h.inv
theorem RelV.ty_i {n} (h : RelV B Z φ v (.ty n)) : v = .type n := h.inv
theorem RelV.fn_i {f} (h : RelV B Z φ v (.fn f)) : ∃ a, v = .ref a ∧ B.fn f = some a := h.inv
theorem RelV.fn_e {f a} (h : RelV B Z φ v (.fn f)) (e : B.fn f = some a) : v = .ref a := by
  obtain ⟨b, rfl, h'⟩ := h.fn_i; rw [Option.some.inj (h'.symm.trans e)]
theorem RelV.lam_i {p b sc} (h : RelV B Z φ v (.lam p b sc)) : ∃ a o fd, v = .ref a ∧ Z a = some o ∧ o.data = .func fd ∧ LamFd Z fd p b sc := h.inv
theorem RelVs.nil_i {vs} (h : RelVs B Z φ vs []) : vs = [] := by cases h; rfl
inductive ConsI (B : Base) (Z : Fz) (φ : List Addr) (vs : List Value) (a : AV) (as : List AV) : Prop
  | mk : ∀ v vs', vs = v :: vs' → RelV B Z φ v a → RelVs B Z φ vs' as → ConsI B Z φ vs a as
theorem RelVs.cons_i {vs a as} (h : RelVs B Z φ vs (a :: as)) : ConsI B Z φ vs a as := by
  cases h with | cons h1 h2 => exact ⟨_, _, rfl, h1, h2⟩
end

/-- growth of the frozen part and of the ledger's addresses -/
structure Ext (Z : Fz) (φ : List Addr) (Z' : Fz) (φ' : List Addr) : Prop where
  z : Z.le Z'
  p : φ <+: φ'
theorem Ext.refl (Z : Fz) (φ : List Addr) : Ext Z φ Z φ := ⟨.refl _, List.prefix_refl _⟩
theorem Ext.trans {Z Z' Z'' : Fz} {φ φ' φ'' : List Addr} (x : Ext Z φ Z' φ') (y : Ext Z' φ' Z'' φ'') : Ext Z φ Z'' φ'' := ⟨x.z.trans y.z, x.p.trans y.p⟩
theorem prefix_get {φ φ' : List Addr} (h : φ <+: φ') {i : Nat} {a : Addr} (e : φ[i]? = some a) : φ'[i]? = some a := by
  obtain ⟨t, rfl⟩ := h
  have : i < φ.length := (List.getElem?_eq_some_iff.mp e).1
  rw [List.getElem?_append_left this]; exact e

variable {B : Base} {Z Z' : Fz} {φ φ' : List Addr}

theorem RelV.mono (x : Ext Z φ Z' φ') {v : Value} {a : AV} (h : RelV B Z φ v a) : RelV B Z' φ' v a :=
  RelV.rec (motive_1 := fun v a _ => RelV B Z' φ' v a) (motive_2 := fun vs as _ => RelVs B Z' φ' vs as)
    .none .bool .int .str (fun h1 h2 h3 _ ih => .tup (x.z _ _ h1) h2 h3 ih) (fun h1 _ ih => .lst (x.z _ _ h1) ih) (fun h => .ref (prefix_get x.p h)) (fun h => .rng (x.z _ _ h))
    (fun h1 h2 h3 h4 _ ih => .dct (x.z _ _ h1) h2 h3 h4 ih) (fun h1 h2 => .iset (x.z _ _ h1) h2) .bi .ty .fn (fun h1 h2 h3 => .lam (x.z _ _ h1) h2 (h3.mono x.z)) .nil (fun _ _ i1 i2 => .cons i1 i2) h
/-- from item to item -/
theorem RelVs.imp {as : List AV} : ∀ {vs : List Value}, (∀ v a, a ∈ as → RelV B Z φ v a → RelV B Z' φ' v a) → RelVs B Z φ vs as → RelVs B Z' φ' vs as := by
  induction as with
  | nil => intro vs _ h; obtain rfl := h.nil_i; exact .nil
  | cons a as ih => intro vs g h; obtain ⟨v, vs', rfl, h1, h2⟩ := h.cons_i; exact .cons (g v a (.head _) h1) (ih (fun v b hb => g v b (.tail _ hb)) h2)
theorem RelVs.mono (x : Ext Z φ Z' φ') {v : List Value} {a : List AV} (h : RelVs B Z φ v a) : RelVs B Z' φ' v a := h.imp fun _ _ _ h => h.mono x

theorem RelVs.length {as : List AV} : ∀ {vs : List Value}, RelVs B Z φ vs as → vs.length = as.length := by
  induction as with
  | nil => intro vs h; obtain rfl := h.nil_i; rfl
  | cons a as ih => intro vs h; obtain ⟨v, vs', rfl, _, h2⟩ := h.cons_i; exact congrArg (· + 1) (ih h2)
theorem RelVs.get {as : List AV} : ∀ {vs : List Value} {i : Nat} {a : AV}, RelVs B Z φ vs as → as[i]? = some a → ∃ v, vs[i]? = some v ∧ RelV B Z φ v a := by
  induction as with
  | nil => intro vs i a h e; cases e
  | cons b as ih =>
    intro vs i a h e
    obtain ⟨v, vs', rfl, h1, h2⟩ := h.cons_i
    cases i with
    | zero => obtain rfl := Option.some.inj e; exact ⟨v, rfl, h1⟩
    | succ i => have q := ih h2 e; exact q
theorem RelVs.get' {as : List AV} : ∀ {vs : List Value} {i : Nat} {v : Value}, RelVs B Z φ vs as → vs[i]? = some v → ∃ a, as[i]? = some a ∧ RelV B Z φ v a := by
  induction as with
  | nil => intro vs i a h e; obtain rfl := h.nil_i; cases e
  | cons b as ih =>
    intro vs i a h e
    obtain ⟨v, vs', rfl, h1, h2⟩ := h.cons_i
    cases i with
    | zero => obtain rfl := Option.some.inj e; exact ⟨b, rfl, h1⟩
    | succ i => have q := ih h2 e; exact q
theorem RelVs.append {as : List AV} : ∀ {vs ws : List Value} {bs : List AV}, RelVs B Z φ vs as → RelVs B Z φ ws bs → RelVs B Z φ (vs ++ ws) (as ++ bs) := by
  induction as with
  | nil => intro vs ws bs h g; obtain rfl := h.nil_i; exact g
  | cons a as ih => intro vs ws bs h g; obtain ⟨v, vs', rfl, h1, h2⟩ := h.cons_i; exact .cons h1 (ih h2 g)
theorem RelVs.take {as : List AV} : ∀ {vs : List Value} (n : Nat), RelVs B Z φ vs as → RelVs B Z φ (vs.take n) (as.take n) := by
  induction as with
  | nil => intro vs n h; obtain rfl := h.nil_i; cases n <;> exact .nil
  | cons a as ih =>
    intro vs n h; obtain ⟨v, vs', rfl, h1, h2⟩ := h.cons_i
    cases n with
    | zero => exact .nil
    | succ n => exact .cons h1 (ih n h2)
theorem RelVs.drop {as : List AV} : ∀ {vs : List Value} (n : Nat), RelVs B Z φ vs as → RelVs B Z φ (vs.drop n) (as.drop n) := by
  induction as with
  | nil => intro vs n h; obtain rfl := h.nil_i; cases n <;> exact .nil
  | cons a as ih =>
    intro vs n h
    cases n with
    | zero => exact h
    | succ n => obtain ⟨v, vs', rfl, h1, h2⟩ := h.cons_i; exact ih n h2
theorem RelVs.set {as : List AV} : ∀ {vs : List Value} {v a} (i : Nat), RelVs B Z φ vs as → RelV B Z φ v a → RelVs B Z φ (vs.set i v) (as.set i a) := by
  induction as with
  | nil => intro vs v a i h _; obtain rfl := h.nil_i; exact .nil
  | cons b as ih =>
    intro vs v a i h g
    obtain ⟨w, vs', rfl, h1, h2⟩ := h.cons_i
    cases i with
    | zero => exact .cons g h2
    | succ i => exact .cons h1 (ih i h2 g)
theorem RelVs.of_get {as : List AV} : ∀ {vs : List Value}, vs.length = as.length → (∀ (i : Nat) v a, vs[i]? = some v → as[i]? = some a → RelV B Z φ v a) → RelVs B Z φ vs as := by
  induction as with
  | nil => intro vs h _; obtain rfl := List.length_eq_zero_iff.mp h; exact .nil
  | cons a as ih =>
    intro vs h g
    cases vs with
    | nil => cases h
    | cons v vs => exact .cons (g 0 v a rfl rfl) (ih (Nat.succ.inj h) fun i v a e1 e2 => g (i + 1) v a e1 e2)

/-! ### the invariant over a state -/
structure Inv (B : Base) (Z : Fz) (E : List Ent) (s : Shared) : Prop where
  fz : ∀ b o, Z b = some o → s.heap.get? b = some o
  base : ∀ b o, B.H.get? b = some o → (∀ t ∈ B.tabs, t.P ≠ b) → Z b = some o
  ent : ∀ p ∈ E, ∃ o, s.heap.get? p.1 = some o ∧ p.2 o
  nd : (E.map (·.1)).Nodup
  dj : ∀ p ∈ E, Z p.1 = Option.none
  hi : ∀ p ∈ E, B.H.objs.size ≤ p.1
  tab : ∀ t ∈ B.tabs, ∃ ps, s.heap.IsCode t.c t.P ps ∧ s.heap.TableAt t.c t.P ps ∧ (∀ pos c, codeAmong pos ps.toList = some c → ZCode Z c t.q)
  tz : ∀ t ∈ B.tabs, Z t.P = Option.none
  tlo : ∀ t ∈ B.tabs, t.c < B.H.objs.size ∧ t.P < B.H.objs.size
  old : OldK B.H s.heap
  gens : s.gens = #[]
  os : s.os = B.os

theorem oldK_ext {h₀ h h' : Heap} {a : Addr} (K : OldK h₀ h) (ha : h₀.objs.size ≤ a) (hs : Heap.ExtBut a h h') : OldK h₀ h' := by
  have ne : ∀ b o, h₀.get? b = some o → b ≠ a := fun b o e => Nat.ne_of_lt (Nat.lt_of_lt_of_le (Heap.lt_size e) ha)
  refine ⟨fun b o e => ?_, fun b o e => let ⟨o', ho'⟩ := K.there b o e; ⟨o', hs b _ (ne b o e) ho'⟩⟩
  rcases K.old b o e with x | ⟨t, hc, vs, more, hv, x⟩ | ⟨rfl, hc, ⟨o', es, n, ho', r⟩, z⟩
  · exact .inl (hs b _ (ne b o e) x)
  · exact .inr (.inl ⟨t, hc, vs, more, hv, hs b _ (ne b o e) x⟩)
  · exact .inr (.inr ⟨rfl, hc, ⟨o', es, n, hs _ _ (ne _ o e) ho', r⟩, fun key => by rw [OldK.staticOf_congr ((hs _ _ (ne _ o e) ho').trans ho'.symm) key]; exact z key⟩)

namespace Inv
variable {E E' : List Ent} {s : Shared} {h' : Heap} {tk : Nat}

theorem lt (I : Inv B Z E s) {a : Addr} {o : Obj} (h : Z a = some o) : a < s.heap.objs.size := Heap.lt_size (I.fz _ _ h)
theorem zfresh (I : Inv B Z E s) {a : Addr} (h : s.heap.objs.size ≤ a) : Z a = Option.none := by
  cases e : Z a with
  | none => rfl
  | some o => exact absurd (I.lt e) (Nat.not_lt.mpr h)
theorem efresh (I : Inv B Z E s) {a : Addr} (h : s.heap.objs.size ≤ a) : a ∉ E.map (·.1) := fun q => by
  obtain ⟨p, hp, rfl⟩ := List.mem_map.mp q
  obtain ⟨o, ho, _⟩ := I.ent p hp
  exact absurd (Heap.lt_size ho) (Nat.not_lt.mpr h)
theorem bsize (I : Inv B Z E s) : B.H.objs.size ≤ s.heap.objs.size := by
  obtain ⟨b, o, e, hb⟩ := B.last
  obtain ⟨o', ho'⟩ := I.old.there b o e
  rw [hb]; exact Heap.lt_size ho'

theorem keeps (I : Inv B Z E s) (hk : ∀ b o, s.heap.get? b = some o → h'.get? b = some o) : Inv B Z E { s with heap := h', toks := tk } where
  fz := fun b o e => hk _ _ (I.fz b o e)
  base := I.base
  ent := fun p hp => let ⟨o, ho, r⟩ := I.ent p hp; ⟨o, hk _ _ ho, r⟩
  nd := I.nd
  dj := I.dj
  hi := I.hi
  tab := fun t ht => let ⟨ps, a, b, c⟩ := I.tab t ht; ⟨ps, a.keeps hk, b.keeps hk, c⟩
  tz := I.tz
  tlo := I.tlo
  old := I.old.step_keeps hk
  gens := I.gens
  os := I.os
theorem toks (I : Inv B Z E s) : Inv B Z E { s with toks := tk } := I.keeps (h' := s.heap) fun _ _ e => e

theorem perm (I : Inv B Z E s) (h : E.Perm E') : Inv B Z E' s := { I with
  ent := fun p hp => I.ent p (h.mem_iff.mpr hp)
  nd := (h.map _).nodup_iff.mp I.nd
  dj := fun p hp => I.dj p (h.mem_iff.mpr hp)
  hi := fun p hp => I.hi p (h.mem_iff.mpr hp) }

theorem upd (I : Inv B Z E s) {E1 E2 : List Ent} {a : Addr} {p p' : Obj → Prop} (hE : E = E1 ++ (a, p) :: E2) (hx : Heap.ExtBut a s.heap h') {o' : Obj} (ho : h'.get? a = some o') (hp : p' o') :
    Inv B Z (E1 ++ (a, p') :: E2) { s with heap := h', toks := tk } := by
  subst hE
  have hz : Z a = Option.none := I.dj (a, p) (by simp)
  have hi : B.H.objs.size ≤ a := I.hi (a, p) (by simp)
  have nd := I.nd
  have mem : ∀ q : Ent, q ∈ E1 ++ (a, p') :: E2 → q.1 ≠ a → q ∈ E1 ++ (a, p) :: E2 := fun q hq hne => by
    simp only [List.mem_append, List.mem_cons] at hq ⊢
    rcases hq with h | h | h
    · exact .inl h
    · subst h; exact absurd rfl hne
    · exact .inr (.inr h)
  have zne : ∀ b o, Z b = some o → b ≠ a := fun b o e q => by subst q; rw [hz] at e; cases e
  refine { fz := fun b o e => hx _ _ (zne b o e) (I.fz b o e), base := I.base, ent := fun q hq => ?_, nd := ?_, dj := fun q hq => ?_, hi := fun q hq => ?_, tab := fun t ht => ?_, tz := I.tz, tlo := I.tlo, old := oldK_ext I.old hi hx, gens := I.gens, os := I.os }
  · simp only [List.mem_append, List.mem_cons] at hq
    have ne : ∀ q : Ent, q ∈ E1 ∨ q ∈ E2 → q.1 ≠ a := fun q hq e => by
      simp only [List.map_append, List.map_cons] at nd
      rw [List.nodup_append] at nd
      rcases hq with h | h
      · exact nd.2.2 a (e ▸ List.mem_map_of_mem h) a (by exact .head _) rfl
      · exact (List.nodup_cons.mp nd.2.1).1 (e ▸ List.mem_map_of_mem h)
    rcases hq with h | h | h
    · obtain ⟨o, e1, e2⟩ := I.ent q (by simp [h]); exact ⟨o, hx _ _ (ne q (.inl h)) e1, e2⟩
    · subst h; exact ⟨o', ho, hp⟩
    · obtain ⟨o, e1, e2⟩ := I.ent q (by simp [h]); exact ⟨o, hx _ _ (ne q (.inr h)) e1, e2⟩
  · simpa using nd
  · by_cases e : q.1 = a
    · rw [e]; exact hz
    · exact I.dj q (mem q hq e)
  · by_cases e : q.1 = a
    · rw [e]; exact hi
    · exact I.hi q (mem q hq e)
  · obtain ⟨ps, x, y, z⟩ := I.tab t ht
    have := I.tlo t ht
    have n1 : t.c ≠ a := Nat.ne_of_lt (Nat.lt_of_lt_of_le this.1 hi)
    have n2 : t.P ≠ a := Nat.ne_of_lt (Nat.lt_of_lt_of_le this.2 hi)
    exact ⟨ps, x.extBut hx n1 n2, y.extBut hx n1 n2, z⟩

theorem new (I : Inv B Z E s) {a : Addr} {p : Obj → Prop} (hk : ∀ b o, s.heap.get? b = some o → h'.get? b = some o) (ha : s.heap.objs.size ≤ a) {o' : Obj} (ho : h'.get? a = some o') (hp : p o') : Inv B Z ((a, p) :: E) { s with heap := h', toks := tk } := by
  have J := I.keeps (tk := tk) hk
  refine { J with ent := fun q hq => ?_, nd := ?_, dj := fun q hq => ?_, hi := fun q hq => ?_ }
  · rcases List.mem_cons.mp hq with rfl | h
    · exact ⟨o', ho, hp⟩
    · exact J.ent q h
  · simp only [List.map_cons, List.nodup_cons]; exact ⟨I.efresh ha, I.nd⟩
  · rcases List.mem_cons.mp hq with rfl | h
    · exact I.zfresh ha
    · exact I.dj q h
  · rcases List.mem_cons.mp hq with rfl | h
    · exact Nat.le_trans I.bsize ha
    · exact I.hi q h

theorem newZ (I : Inv B Z E s) {a : Addr} (hk : ∀ b o, s.heap.get? b = some o → h'.get? b = some o) (ha : s.heap.objs.size ≤ a) {o' : Obj} (ho : h'.get? a = some o') :
    Inv B (Z.put a o') E { s with heap := h', toks := tk } := by
  have J := I.keeps (tk := tk) hk
  have hz := I.zfresh ha
  refine { J with fz := fun b o e => ?_, base := fun b o e t => Fz.le.put hz _ _ (I.base b o e t), dj := fun q hq => ?_, tab := fun t ht => ?_, tz := fun t ht => ?_ }
  · by_cases hb : b = a
    · subst hb; rw [Fz.put_self] at e; cases e; exact ho
    · rw [Fz.put_ne _ _ hb] at e; exact J.fz _ _ e
  · rw [Fz.put_ne _ _ (fun e => I.efresh ha (List.mem_map.mpr ⟨q, hq, e⟩))]; exact I.dj q hq
  · obtain ⟨ps, x, y, z⟩ := J.tab t ht
    exact ⟨ps, x, y, fun pos c hc => (z pos c hc).mono (Fz.le.put hz)⟩
  · rw [Fz.put_ne _ _ (Nat.ne_of_lt (Nat.lt_of_lt_of_le (I.tlo t ht).2 (Nat.le_trans I.bsize ha)))]; exact I.tz t ht

theorem drop (I : Inv B Z E s) (h : E'.Sublist E) : Inv B Z E' s := { I with
  ent := fun p hp => I.ent p (h.subset hp)
  nd := (h.map _).nodup I.nd
  dj := fun p hp => I.dj p (h.subset hp)
  hi := fun p hp => I.hi p (h.subset hp) }

/-- an entry freezes -/
theorem freeze (I : Inv B Z ((a, p) :: E) s) {o : Obj} (ho : s.heap.get? a = some o) : Inv B (Z.put a o) E s := by
  have hz : Z a = Option.none := I.dj (a, p) (by exact .head _)
  have J := I.drop (E' := E) (List.sublist_cons_self _ _)
  have na : a ∉ E.map (·.1) := by have := I.nd; simp only [List.map_cons, List.nodup_cons] at this; exact this.1
  refine { J with fz := fun b o' e => ?_, base := fun b o e t => Fz.le.put hz _ _ (I.base b o e t), dj := fun q hq => ?_, tab := fun t ht => ?_, tz := fun t ht => ?_ }
  · by_cases hb : b = a
    · subst hb; rw [Fz.put_self] at e; cases e; exact ho
    · rw [Fz.put_ne _ _ hb] at e; exact J.fz _ _ e
  · rw [Fz.put_ne _ _ (fun e => na (List.mem_map.mpr ⟨q, hq, e⟩))]; exact J.dj q hq
  · obtain ⟨ps, x, y, z⟩ := J.tab t ht
    exact ⟨ps, x, y, fun pos c hc => (z pos c hc).mono (Fz.le.put hz)⟩
  · rw [Fz.put_ne _ _ (Nat.ne_of_lt (Nat.lt_of_lt_of_le (I.tlo t ht).2 (I.hi (a, p) (by simp))))]; exact I.tz t ht
end Inv

/-- entries weaken, place for place -/
inductive Weak : List Ent → List Ent → Prop
  | nil : Weak [] []
  | cons {a p p' E E'} : (∀ o, p o → p' o) → Weak E E' → Weak ((a, p) :: E) ((a, p') :: E')
theorem Weak.refl : ∀ E, Weak E E
  | [] => .nil
  | (_, _) :: E => .cons (fun _ h => h) (Weak.refl E)
theorem Weak.append {E1 E1' E2 E2' : List Ent} (h : Weak E1 E1') (g : Weak E2 E2') : Weak (E1 ++ E2) (E1' ++ E2') := by
  induction h with
  | nil => exact g
  | cons h _ ih => exact .cons h ih
theorem Weak.addr {E E' : List Ent} (h : Weak E E') : E.map (·.1) = E'.map (·.1) := by
  induction h with
  | nil => rfl
  | cons _ _ ih => simp [ih]
theorem Weak.mem {E E' : List Ent} (h : Weak E E') : ∀ q ∈ E', ∃ q₀ ∈ E, q₀.1 = q.1 ∧ ∀ o, q₀.2 o → q.2 o := by
  induction h with
  | nil => intro q hq; cases hq
  | cons h _ ih =>
    intro q hq
    rcases List.mem_cons.mp hq with rfl | hq
    · exact ⟨_, List.mem_cons_self, rfl, h⟩
    · obtain ⟨q₀, a, b⟩ := ih q hq; exact ⟨q₀, List.mem_cons_of_mem _ a, b⟩
theorem Inv.weak {E E' : List Ent} {s : Shared} (I : Inv B Z E s) (h : Weak E E') : Inv B Z E' s := { I with
  ent := fun q hq => let ⟨q₀, a, b, c⟩ := h.mem q hq; let ⟨o, d, e⟩ := I.ent q₀ a; ⟨o, b ▸ d, c o e⟩
  nd := h.addr ▸ I.nd
  dj := fun q hq => let ⟨q₀, a, b, _⟩ := h.mem q hq; b ▸ I.dj q₀ a
  hi := fun q hq => let ⟨q₀, a, b, _⟩ := h.mem q hq; b ▸ I.hi q₀ a }

end Mine
end
section
open PySem PySem.W PyProof.Rows
set_option Elab.async false
set_option linter.unusedVariables false
namespace Mine

/-! ### names: equal as strings -/
theorem ofString_inj {a b : String} (h : Str.ofString a = Str.ofString b) : a = b := by
  have e : (cpsOfBytes 0 0 a.toByteArray.data.toList) = (cpsOfBytes 0 0 b.toByteArray.data.toList) := by
    have := congrArg Str.cps h
    exact congrArg Array.toList this
  rw [cpsOfBytes_string, cpsOfBytes_string] at e
  have inj : ∀ (x y : List Char), x.map Char.toNat = y.map Char.toNat → x = y := by
    intro x
    induction x with
    | nil => intro y h; cases y with | nil => rfl | cons => simp at h
    | cons c x ih =>
      intro y h
      cases y with
      | nil => simp at h
      | cons d y =>
        simp only [List.map_cons, List.cons.injEq] at h
        rw [ih y h.2, Char.toNat_inj.mp h.1]
  exact String.toList_inj.mp (inj _ _ e)
theorem nm {a b : String} (h : a ≠ b) : Str.ofString a ≠ Str.ofString b := fun e => h (ofString_inj e)

def get : List (Str × AV) → Str → Option AV
  | [], _ => none
  | (k, v) :: r, x => if k = x then some v else get r x
theorem get_hd {k : Str} {v : AV} {r} : get ((k, v) :: r) k = some v := by simp [get]
theorem get_tl {k x : Str} {v : AV} {r} {o} (h : k ≠ x) (g : get r x = o) : get ((k, v) :: r) x = o := by simp [get, h, g]

/-- a name is stored -/
inductive SetTo : List (Str × AV) → Str → AV → List (Str × AV) → Prop
  | nil {x v} : SetTo [] x v [(x, v)]
  | hd {x u v r} : SetTo ((x, u) :: r) x v ((x, v) :: r)
  | tl {k x u v r r'} : k ≠ x → SetTo r x v r' → SetTo ((k, u) :: r) x v ((k, u) :: r')
theorem SetTo.get {l x v l'} (h : SetTo l x v l') : ∀ y, get l' y = if y = x then some v else Mine.get l y := by
  induction h with
  | @nil x v =>
    intro y; simp only [Mine.get]
    by_cases e : y = x
    · simp [e]
    · have : ¬ x = y := fun q => e q.symm
      simp [e, this]
  | @hd x u v r =>
    intro y; simp only [Mine.get]
    by_cases e : y = x
    · simp [e]
    · have : ¬ x = y := fun q => e q.symm
      simp [e, this]
  | @tl k x u v r r' hn _ ih =>
    intro y
    simp only [Mine.get, ih]
    by_cases e : k = y
    · subst e; simp [hn]
    · simp [e]

structure St where
  loc : List (Str × AV)
  led : List MO

variable (B : Base) (Z : Fz) (φ : List Addr)

def NsP (names : List (Str × NameKind)) (loc : List (Str × AV)) (o : Obj) : Prop :=
  ∃ es ep, o.data = .dict es ep ∧ StrKeys es ∧ ∀ x av, names.lookup x = some .local → get loc x = some av → ∃ v, nsFind es x = some v ∧ RelV B Z φ v av
def CellP (loc : List (Str × AV)) (x : Str) (o : Obj) : Prop := ∃ v, o.data = .cell v ∧ ∀ av, get loc x = some av → ∃ v', v = some v' ∧ RelV B Z φ v' av
def frameE (env : Env) (loc : List (Str × AV)) : List Ent := (env.locals, NsP B Z φ env.scope.names loc) :: env.cells.map fun c => (c.2, CellP B Z φ loc c.1)

inductive RelKV : List (Int × Value) → List (Int × AV) → Prop
  | nil : RelKV [] []
  | cons {k v a vs as} : RelV B Z φ v a → RelKV vs as → RelKV ((k, v) :: vs) ((k, a) :: as)
def MOP : MO → Obj → Prop
  | .gone, _ => True
  | .list l, o => ∃ items n, o = { cls := .type "list", data := .seq items n } ∧ RelVs B Z φ items.toList l
  | .dict kvs, o => ∃ kvs', o.IsDictOf (intKind B.prog B.w) kvs' ∧ RelKV B Z φ kvs' kvs
def entM (a : Addr) : MO → List Ent
  | .gone => []
  | mo => [(a, MOP B Z φ mo)]
def ledE (led : List MO) : List Ent := (φ.zip led).flatMap fun p => entM B Z φ p.1 p.2

structure Rel (env : Env) (σ : St) (fr : List Ent) (s : Shared) : Prop where
  inv : Inv B Z (frameE B Z φ env σ.loc ++ (ledE B Z φ σ.led ++ fr)) s
  len : φ.length = σ.led.length

variable {B Z φ}
variable {Z' : Fz} {φ' : List Addr}
theorem RelKV.mono (x : Ext Z φ Z' φ') {a b} (h : RelKV B Z φ a b) : RelKV B Z' φ' a b := by
  induction h with
  | nil => exact .nil
  | cons h _ ih => exact .cons (h.mono x) ih
theorem NsP.mono (x : Ext Z φ Z' φ') {n l o} (h : NsP B Z φ n l o) : NsP B Z' φ' n l o :=
  let ⟨es, ep, a, b, c⟩ := h; ⟨es, ep, a, b, fun y av h1 h2 => let ⟨v, e1, e2⟩ := c y av h1 h2; ⟨v, e1, e2.mono x⟩⟩
theorem CellP.mono (x : Ext Z φ Z' φ') {l y o} (h : CellP B Z φ l y o) : CellP B Z' φ' l y o :=
  let ⟨v, a, c⟩ := h; ⟨v, a, fun av h2 => let ⟨v, e1, e2⟩ := c av h2; ⟨v, e1, e2.mono x⟩⟩
theorem MOP.mono (x : Ext Z φ Z' φ') {mo o} (h : MOP B Z φ mo o) : MOP B Z' φ' mo o := by
  cases mo with
  | gone => trivial
  | list l => obtain ⟨i, n, a, b⟩ := h; exact ⟨i, n, a, b.mono x⟩
  | dict l => obtain ⟨i, a, b⟩ := h; exact ⟨i, a, b.mono x⟩
theorem weak_frame (x : Ext Z φ Z' φ') (env : Env) (loc) : Weak (frameE B Z φ env loc) (frameE B Z' φ' env loc) := by
  refine .cons (fun o h => h.mono x) ?_
  generalize env.cells = cs
  induction cs with
  | nil => exact .nil
  | cons c r ih => exact .cons (fun o h => h.mono x) ih
theorem weak_ent (x : Ext Z φ Z' φ') (a : Addr) (mo : MO) : Weak (entM B Z φ a mo) (entM B Z' φ' a mo) := by
  cases mo with
  | gone => exact .nil
  | list l => exact .cons (fun o h => h.mono x) .nil
  | dict l => exact .cons (fun o h => h.mono x) .nil
theorem weak_led (x : Ext Z φ Z' φ') : ∀ (ψ : List Addr) (led : List MO), Weak ((ψ.zip led).flatMap fun p => entM B Z φ p.1 p.2) ((ψ.zip led).flatMap fun p => entM B Z' φ' p.1 p.2)
  | [], _ => by simp; exact .nil
  | _ :: _, [] => by simp; exact .nil
  | a :: ψ, m :: led => by simp only [List.zip_cons_cons, List.flatMap_cons]; exact (weak_ent x a m).append (weak_led x ψ led)

/-- the frozen part has grown: the state's words hold as before -/
theorem Rel.mono {env σ fr s} (h : Rel B Z φ env σ fr s) {s' : Shared} (x : Ext Z φ Z' φ) (I : Inv B Z' (frameE B Z φ env σ.loc ++ (ledE B Z φ σ.led ++ fr)) s') : Rel B Z' φ env σ fr s' :=
  ⟨I.weak ((weak_frame x env σ.loc).append ((weak_led x φ σ.led).append (Weak.refl fr))), h.len⟩

theorem Rel.keeps {env σ fr s} (h : Rel B Z φ env σ fr s) {h' : Heap} {tk : Nat} (hk : ∀ b o, s.heap.get? b = some o → h'.get? b = some o) : Rel B Z φ env σ fr { s with heap := h', toks := tk } :=
  ⟨h.inv.keeps hk, h.len⟩
theorem Rel.toks {env σ fr s} (h : Rel B Z φ env σ fr s) {tk : Nat} : Rel B Z φ env σ fr { s with toks := tk } := ⟨h.inv.toks, h.len⟩

/-! ### frames and room -/
structure Frm where
  sc : Scope
  code : Option (Addr × Str)
  ht : Nat

structure EnvOk (F : Frm) (env : Env) : Prop where
  sc : env.scope = F.sc
  kind : F.sc.kind = .function
  gl : env.globals = mainNs
  bl : env.builtins = builtinsNs
  code : ∀ c q, F.code = some (c, q) → env.code = .ref c ∧ env.qual = q
  cells : ∀ x, F.sc.names.lookup x = some .cell → ∃ c, env.cells.lookup x = some c
  cellk : ∀ c ∈ env.cells, F.sc.names.lookup c.1 = some .cell
  celln : (env.cells.map (·.1)).Nodup
  celle : env.cells.map (·.1) = (cellsFrom 0 F.sc.names []).map (·.1)
theorem cellsFrom_none : ∀ (names : List (Str × NameKind)) (n : Nat) (acc : List (Str × Addr)), (∀ x ∈ names, x.2 ≠ .cell) → cellsFrom n names acc = acc
  | [], _, _, _ => rfl
  | (x, k) :: r, n, acc, h => by
    have : (k == NameKind.cell) = false := by simpa using h (x, k) List.mem_cons_self
    unfold cellsFrom; rw [this]; exact cellsFrom_none r n acc fun y hy => h y (List.mem_cons_of_mem _ hy)

structure Rm (h : Nat) (A : Around) : Prop where
  hd : A.handled = none
  depth : A.depth + h < 400
  units : A.units + 10 * h < 1000

inductive PostV (B : Base) (env : Env) (Z : Fz) (φ : List Addr) (fr : List Ent) (Q : AV → St → Prop) (v : Value) (s' : Shared) : Prop
  | mk (Z' φ' σ' av) : Ext Z φ Z' φ' → RelV B Z' φ' v av → Rel B Z' φ' env σ' fr s' → Q av σ' → PostV B env Z φ fr Q v s'
inductive PostB (B : Base) (env : Env) (Z : Fz) (φ : List Addr) (fr : List Ent) (Q : Bool → St → Prop) (v : Bool) (s' : Shared) : Prop
  | mk (Z' φ' σ') : Ext Z φ Z' φ' → Rel B Z' φ' env σ' fr s' → Q v σ' → PostB B env Z φ fr Q v s'
inductive PostL (B : Base) (env : Env) (Z : Fz) (φ : List Addr) (fr : List Ent) (Q : List AV → St → Prop) (v : List Value) (s' : Shared) : Prop
  | mk (Z' φ' σ' av) : Ext Z φ Z' φ' → RelVs B Z' φ' v av → Rel B Z' φ' env σ' fr s' → Q av σ' → PostL B env Z φ fr Q v s'
inductive PostR (B : Base) (Z' : Fz) (φ' : List Addr) (Qr : AV → St → Prop) (σ' : St) (v : Value) : Prop
  | mk (av) : RelV B Z' φ' v av → Qr av σ' → PostR B Z' φ' Qr σ' v
def FlowP (Qn : Prop) (R : Value → Prop) : Flow → Prop
  | .next => Qn
  | .ret v => R v
  | _ => False
inductive PostF (B : Base) (env : Env) (Z : Fz) (φ : List Addr) (fr : List Ent) (Qn : St → Prop) (Qr : AV → St → Prop) (f : Flow) (s' : Shared) : Prop
  | mk (Z' φ' σ') : Ext Z φ Z' φ' → Rel B Z' φ' env σ' fr s' → FlowP (Qn σ') (PostR B Z' φ' Qr σ') f → PostF B env Z φ fr Qn Qr f s'
inductive PostN (B : Base) (env : Env) (Z : Fz) (φ : List Addr) (fr : List Ent) (Q : St → Prop) (s' : Shared) : Prop
  | mk (Z' φ' σ') : Ext Z φ Z' φ' → Rel B Z' φ' env σ' fr s' → Q σ' → PostN B env Z φ fr Q s'

theorem PostV.up {env fr Q v s'} (h : PostV B env Z' φ' fr Q v s') (x : Ext Z φ Z' φ') : PostV B env Z φ fr Q v s' :=
  let ⟨Z2, φ2, σ, av, a, r, r2, r3⟩ := h; ⟨Z2, φ2, σ, av, x.trans a, r, r2, r3⟩
theorem PostB.up {env fr Q v s'} (h : PostB B env Z' φ' fr Q v s') (x : Ext Z φ Z' φ') : PostB B env Z φ fr Q v s' :=
  let ⟨Z2, φ2, σ, a, r, r2⟩ := h; ⟨Z2, φ2, σ, x.trans a, r, r2⟩
theorem PostL.up {env fr Q v s'} (h : PostL B env Z' φ' fr Q v s') (x : Ext Z φ Z' φ') : PostL B env Z φ fr Q v s' :=
  let ⟨Z2, φ2, σ, av, a, r, r2, r3⟩ := h; ⟨Z2, φ2, σ, av, x.trans a, r, r2, r3⟩
theorem PostF.up {env fr Qn Qr v s'} (h : PostF B env Z' φ' fr Qn Qr v s') (x : Ext Z φ Z' φ') : PostF B env Z φ fr Qn Qr v s' :=
  let ⟨Z2, φ2, σ, a, r, q⟩ := h; ⟨Z2, φ2, σ, x.trans a, r, q⟩

abbrev NoE : Value → Shared → Prop := fun _ _ => False

def WE (B : Base) (F : Frm) (e : Expr) (Q : AV → St → Prop) (σ : St) : Prop :=
  ∀ A env Z φ fr s, Rm F.ht A → EnvOk F env → Rel B Z φ env σ fr s → wpAny (model B.prog B.w) A (eval e env) (PostV B env Z φ fr Q) NoE s
def WB (B : Base) (F : Frm) (e : Expr) (Q : Bool → St → Prop) (σ : St) : Prop :=
  ∀ A env Z φ fr s, Rm F.ht A → EnvOk F env → Rel B Z φ env σ fr s → wpAny (model B.prog B.w) A (isTrue e env (eval e env)) (PostB B env Z φ fr Q) NoE s
def WS (B : Base) (F : Frm) (st : Stmt) (Qn : St → Prop) (Qr : AV → St → Prop) (σ : St) : Prop :=
  ∀ A env Z φ fr s, Rm F.ht A → EnvOk F env → Rel B Z φ env σ fr s → wpAny (model B.prog B.w) A (exec st env) (PostF B env Z φ fr Qn Qr) NoE s
def WSs (B : Base) (F : Frm) (sts : List Stmt) (Qn : St → Prop) (Qr : AV → St → Prop) (σ : St) : Prop :=
  ∀ A env Z φ fr s, Rm F.ht A → EnvOk F env → Rel B Z φ env σ fr s → wpAny (model B.prog B.w) A (execs sts env) (PostF B env Z φ fr Qn Qr) NoE s
/-- a step on values at hand -/
def W1 (B : Base) (F : Frm) (t : Value → Sem Value) (a : AV) (Q : AV → St → Prop) (σ : St) : Prop :=
  ∀ A env Z φ fr s v, Rm F.ht A → EnvOk F env → RelV B Z φ v a → Rel B Z φ env σ fr s → wpAny (model B.prog B.w) A (t v) (PostV B env Z φ fr Q) NoE s
def W2 (B : Base) (F : Frm) (t : Value → Value → Sem Value) (a b : AV) (Q : AV → St → Prop) (σ : St) : Prop :=
  ∀ A env Z φ fr s v u, Rm F.ht A → EnvOk F env → RelV B Z φ v a → RelV B Z φ u b → Rel B Z φ env σ fr s → wpAny (model B.prog B.w) A (t v u) (PostV B env Z φ fr Q) NoE s
def WTr (B : Base) (F : Frm) (a : AV) (Q : Bool → St → Prop) (σ : St) : Prop :=
  ∀ A env Z φ fr s v, Rm F.ht A → EnvOk F env → RelV B Z φ v a → Rel B Z φ env σ fr s → wpAny (model B.prog B.w) A (truthy v) (PostB B env Z φ fr Q) NoE s
/-- a name is stored -/
def WSt (B : Base) (F : Frm) (x : Str) (a : AV) (Q : St → Prop) (σ : St) : Prop :=
  ∀ A env Z φ fr s v, Rm F.ht A → EnvOk F env → RelV B Z φ v a → Rel B Z φ env σ fr s → wpAny (model B.prog B.w) A (storeName env x v) (fun _ s' => PostN B env Z φ fr Q s') NoE s

section
variable {F : Frm} {σ : St} {Q : AV → St → Prop}

/-- the post of a plain end -/
theorem postV {env fr v s av} (hv : RelV B Z φ v av) (R : Rel B Z φ env σ fr s) (h : Q av σ) : PostV B env Z φ fr Q v s := ⟨Z, φ, σ, av, .refl _ _, hv, R, h⟩
theorem postB {env fr s} {Q : Bool → St → Prop} {b} (R : Rel B Z φ env σ fr s) (h : Q b σ) : PostB B env Z φ fr Q b s := ⟨Z, φ, σ, .refl _ _, R, h⟩

theorem r_int {i k pos} (h : Q (.int i) σ) : WE B F (.Constant (.int i) k pos) Q σ := fun _ _ _ _ _ _ _ _ R => wpAny_Constant_int (postV (.int ..) R.toks h)
theorem r_str {x k pos} (h : Q (.str x) σ) : WE B F (.Constant (.str x) k pos) Q σ := fun _ _ _ _ _ _ _ _ R => wpAny_Constant_str (postV (.str ..) R.toks h)
theorem r_none {k pos} (h : Q .none σ) : WE B F (.Constant .none k pos) Q σ := fun _ _ _ _ _ _ _ _ R => wpAny_Constant_none (postV .none R h)

theorem r_binop {l op r pos} (h : WE B F l (fun a σ1 => WE B F r (fun b σ2 => W2 B F (binaryOp op) a b Q σ2) σ1) σ) : WE B F (.BinOp l op r pos) Q σ := fun A env Z φ fr s hA hE R =>
  wpAny_BinOp (wpAny_mono (h A env Z φ fr s hA hE R) (fun v s1 ⟨Z1, φ1, σ1, a, x1, rv, R1, h1⟩ => wpAny_mono (h1 A env Z1 φ1 fr s1 hA hE R1) (fun u s2 ⟨Z2, φ2, σ2, b, x2, ru, R2, h2⟩ =>
    wpAny_mono (h2 A env Z2 φ2 fr s2 v u hA hE (rv.mono x2) ru R2) (fun _ _ p => p.up (x1.trans x2)) fun _ _ e => e) fun _ _ e => e) fun _ _ e => e)
theorem r_unop {op x pos} (h : WE B F x (fun a σ1 => W1 B F (unaryOp op) a Q σ1) σ) : WE B F (.UnaryOp op x pos) Q σ := fun A env Z φ fr s hA hE R =>
  wpAny_UnaryOp (wpAny_mono (h A env Z φ fr s hA hE R) (fun v s1 ⟨Z1, φ1, σ1, a, x1, rv, R1, h1⟩ => wpAny_mono (h1 A env Z1 φ1 fr s1 v hA hE rv R1) (fun _ _ p => p.up x1) fun _ _ e => e) fun _ _ e => e)
theorem r_compare {l op r pos} (h : WE B F l (fun a σ1 => WE B F r (fun b σ2 => W2 B F (compareOp op) a b Q σ2) σ1) σ) (hm : behindInMarks op r = false) : WE B F (.Compare l [op] [r] pos) Q σ := fun A env Z φ fr s hA hE R =>
  wpAny_Compare1 (wpAny_mono (h A env Z φ fr s hA hE R) (fun v s1 ⟨Z1, φ1, σ1, a, x1, rv, R1, h1⟩ => wpAny_mono (h1 A env Z1 φ1 fr s1 hA hE R1) (fun u s2 ⟨Z2, φ2, σ2, b, x2, ru, R2, h2⟩ =>
    wpAny_mono (h2 A env Z2 φ2 fr s2 v u hA hE (rv.mono x2) ru R2) (fun _ _ p => p.up (x1.trans x2)) fun _ _ e => e) fun _ _ e => e) fun _ _ e => e) hm
theorem r_ifexp {t b o pos} (h : WB B F t (fun c σ1 => if c then WE B F b Q σ1 else WE B F o Q σ1) σ) : WE B F (.IfExp t b o pos) Q σ := fun A env Z φ fr s hA hE R =>
  wpAny_IfExp (wpAny_mono (h A env Z φ fr s hA hE R) (fun c s1 ⟨Z1, φ1, σ1, x1, R1, h1⟩ => by
    cases c
    · exact wpAny_mono (h1 A env Z1 φ1 fr s1 hA hE R1) (fun _ _ p => p.up x1) fun _ _ e => e
    · exact wpAny_mono (h1 A env Z1 φ1 fr s1 hA hE R1) (fun _ _ p => p.up x1) fun _ _ e => e) fun _ _ e => e)

/-! tests -/
theorem b_compare {l op r pos} {Q : Bool → St → Prop} (h : WE B F l (fun a σ1 => WE B F r (fun b σ2 => W2 B F (compareOp op) a b (fun c σ3 => WTr B F c Q σ3) σ2) σ1) σ) (hm : behindInMarks op r = false) :
    WB B F (.Compare l [op] [r] pos) Q σ := fun A env Z φ fr s hA hE R =>
  wpAny_isTrue_Compare1 (wpAny_mono (h A env Z φ fr s hA hE R) (fun v s1 ⟨Z1, φ1, σ1, a, x1, rv, R1, h1⟩ => wpAny_mono (h1 A env Z1 φ1 fr s1 hA hE R1) (fun u s2 ⟨Z2, φ2, σ2, b, x2, ru, R2, h2⟩ =>
    wpAny_mono (h2 A env Z2 φ2 fr s2 v u hA hE (rv.mono x2) ru R2) (fun c s3 ⟨Z3, φ3, σ3, _, x3, rc, R3, h3⟩ => wpAny_mono (h3 A env Z3 φ3 fr s3 c hA hE rc R3) (fun _ _ p => p.up ((x1.trans x2).trans x3)) fun _ _ e => e) fun _ _ e => e)
      fun _ _ e => e) fun _ _ e => e) hm
theorem b_not {x pos} {Q : Bool → St → Prop} (h : WB B F x (fun b => Q (!b)) σ) : WB B F (.UnaryOp .Not x pos) Q σ := fun A env Z φ fr s hA hE R =>
  wpAny_isTrue_Not (wpAny_mono (h A env Z φ fr s hA hE R) (fun _ _ ⟨Z1, φ1, σ1, x1, R1, h1⟩ => ⟨Z1, φ1, σ1, x1, R1, h1⟩) fun _ _ e => e)
theorem b_and {x y pos} {Q : Bool → St → Prop} (h : WB B F x (fun b σ1 => if b then WB B F y Q σ1 else Q false σ1) σ) : WB B F (.BoolOp .And [x, y] pos) Q σ := fun A env Z φ fr s hA hE R =>
  wpAny_isTrue_BoolOp (wpAny_allTrue_And_cons (wpAny_mono (h A env Z φ fr s hA hE R) (fun b s1 ⟨Z1, φ1, σ1, x1, R1, h1⟩ => by
    cases b
    · exact ⟨Z1, φ1, σ1, x1, R1, h1⟩
    · exact wpAny_allTrue_And_cons (wpAny_mono (h1 A env Z1 φ1 fr s1 hA hE R1) (fun c s2 p => by
        cases c
        · exact p.up x1
        · exact wpAny_allTrue_And_nil (p.up x1)) fun _ _ e => e)) fun _ _ e => e))
theorem b_or {x y pos} {Q : Bool → St → Prop} (h : WB B F x (fun b σ1 => if b then Q true σ1 else WB B F y Q σ1) σ) : WB B F (.BoolOp .Or [x, y] pos) Q σ := fun A env Z φ fr s hA hE R =>
  wpAny_isTrue_BoolOp (wpAny_allTrue_Or_cons (wpAny_mono (h A env Z φ fr s hA hE R) (fun b s1 ⟨Z1, φ1, σ1, x1, R1, h1⟩ => by
    cases b
    · exact wpAny_allTrue_Or_cons (wpAny_mono (h1 A env Z1 φ1 fr s1 hA hE R1) (fun c s2 p => by
        cases c
        · exact wpAny_allTrue_Or_nil (p.up x1)
        · exact p.up x1) fun _ _ e => e)
    · exact ⟨Z1, φ1, σ1, x1, R1, h1⟩) fun _ _ e => e))
theorem b_value {e} {Q : Bool → St → Prop} (h : WE B F e (fun a σ1 => WTr B F a Q σ1) σ) (he : ∀ env whole, isTrue e env whole = (do let v ← whole; standAt e.pos; holding [v] (truthy v))) : WB B F e Q σ := fun A env Z φ fr s hA hE R =>
  wpAny_isTrue_value (wpAny_mono (h A env Z φ fr s hA hE R) (fun v s1 ⟨Z1, φ1, σ1, a, x1, rv, R1, h1⟩ => wpAny_mono (h1 A env Z1 φ1 fr s1 v hA hE rv R1) (fun _ _ p => p.up x1) fun _ _ e => e) fun _ _ e => e) (he env _)

/-! statements -/
variable {Qn : St → Prop} {Qr : AV → St → Prop}
theorem s_nil (h : Qn σ) : WSs B F [] Qn Qr σ := fun _ _ Z φ _ _ _ _ R => wpAny_execs_nil ⟨Z, φ, σ, .refl _ _, R, h⟩
theorem s_cons {st rest} (h : WS B F st (fun σ1 => WSs B F rest Qn Qr σ1) Qr σ) : WSs B F (st :: rest) Qn Qr σ := fun A env Z φ fr s hA hE R =>
  wpAny_execs_cons (wpAny_mono (h A env Z φ fr s hA hE R) (fun f s1 ⟨Z1, φ1, σ1, x1, R1, h1⟩ => by
    cases f with
    | next => exact wpAny_mono (h1 A env Z1 φ1 fr s1 hA hE R1) (fun _ _ p => p.up x1) fun _ _ e => e
    | ret v => exact ⟨Z1, φ1, σ1, x1, R1, h1⟩
    | brk => exact h1.elim
    | cont => exact h1.elim) fun _ _ e => e)
theorem s_if {t b o pos} (h : WB B F t (fun c σ1 => if c then WSs B F b Qn Qr σ1 else WSs B F o Qn Qr σ1) σ) : WS B F (.If t b o pos) Qn Qr σ := fun A env Z φ fr s hA hE R =>
  wpAny_If (wpAny_mono (h A env Z φ fr s hA hE R) (fun c s1 ⟨Z1, φ1, σ1, x1, R1, h1⟩ => by
    cases c
    · exact wpAny_mono (h1 A env Z1 φ1 fr s1 hA hE R1) (fun _ _ p => p.up x1) fun _ _ e => e
    · exact wpAny_mono (h1 A env Z1 φ1 fr s1 hA hE R1) (fun _ _ p => p.up x1) fun _ _ e => e) fun _ _ e => e)
theorem s_return {e pos} (h : WE B F e Qr σ) : WS B F (.Return (some e) pos) Qn Qr σ := fun A env Z φ fr s hA hE R =>
  wpAny_Return_some (wpAny_mono (h A env Z φ fr s hA hE R) (fun v s1 ⟨Z1, φ1, σ1, a, x1, rv, R1, h1⟩ => ⟨Z1, φ1, σ1, x1, R1, a, rv, h1⟩) fun _ _ e => e)
theorem s_expr {e pos} (h : WE B F e (fun _ σ1 => Qn σ1) σ) (hi : F.sc.kind = .function) (hs : ∀ env, swapsWith e none pos.line env = pure false) : WS B F (.Expr e pos) Qn Qr σ := fun A env Z φ fr s hA hE R =>
  wpAny_Expr_any (wpAny_mono (h A env Z φ fr s hA hE R) (fun v s1 ⟨Z1, φ1, σ1, a, x1, rv, R1, h1⟩ => ⟨Z1, φ1, σ1, x1, R1, h1⟩) fun _ _ e => e) (by unfold interactive; rw [hE.sc, hi]; rfl) (hs env)
theorem s_assign {x pos' e pos} (h : WE B F e (fun a σ1 => WSt B F x a Qn σ1) σ) (hs : ∀ env, swapsWith e (some (.Name x pos')) pos.line env = pure false) : WS B F (.Assign [.Name x pos'] e pos) Qn Qr σ := fun A env Z φ fr s hA hE R =>
  wpAny_Assign_Name (wpAny_mono (h A env Z φ fr s hA hE R) (fun v s1 ⟨Z1, φ1, σ1, a, x1, rv, R1, h1⟩ => wpAny_mono (h1 A env Z1 φ1 fr s1 v hA hE rv R1) (fun _ s2 ⟨Z2, φ2, σ2, x2, R2, h2⟩ => ⟨Z2, φ2, σ2, x1.trans x2, R2, h2⟩) fun _ _ e => e) fun _ _ e => e) (hs env)
end

end Mine
end
section
open PySem PySem.W PyProof.Rows
set_option Elab.async false
set_option linter.unusedVariables false
namespace Mine
variable {B : Base} {Z Z' : Fz} {φ φ' : List Addr} {F : Frm} {σ : St} {Q : AV → St → Prop} {env : Env} {fr : List Ent} {s : Shared}

/-! ### names -/
theorem Rel.ns (R : Rel B Z φ env σ fr s) : ∃ es, s.heap.Ns env.locals (nsFind es) ∧ ∀ x av, env.scope.names.lookup x = some .local → get σ.loc x = some av → ∃ v, nsFind es x = some v ∧ RelV B Z φ v av := by
  obtain ⟨o, ho, es, ep, hd, hk, h⟩ := R.inv.ent (env.locals, NsP B Z φ env.scope.names σ.loc) (by simp [frameE])
  exact ⟨es, ⟨o, es, ep, ho, hd, hk, fun _ => rfl⟩, h⟩

theorem r_local {x pos av} (hk : F.sc.names.lookup x = some .local) (hv : get σ.loc x = some av) (h : Q av σ) (hd : (x == ("__debug__" : Str)) = false) : WE B F (.Name x pos) Q σ := fun A env Z φ fr s hA hE R => by
  obtain ⟨es, hn, hr⟩ := R.ns
  obtain ⟨v, h1, h2⟩ := hr x av (by rw [hE.sc]; exact hk) hv
  exact wpAny_Name (wpAny_loadName_local (by rw [hE.sc]; exact hE.kind) (by unfold Env.kindOf; rw [hE.sc]; exact hk) hn h1 (postV h2 R h)) hd
theorem l_local {x av A} (hE : EnvOk F env) (R : Rel B Z φ env σ fr s) (hk : F.sc.names.lookup x = some .local) (hv : get σ.loc x = some av) {Q : Value → Shared → Prop}
    (h : ∀ v, RelV B Z φ v av → Q v s) {M : Model} : wpAny M A (loadName env x) Q NoE s := by
  obtain ⟨es, hn, hr⟩ := R.ns
  obtain ⟨v, h1, h2⟩ := hr x av (by rw [hE.sc]; exact hk) hv
  exact wpAny_loadName_local (by rw [hE.sc]; exact hE.kind) (by unfold Env.kindOf; rw [hE.sc]; exact hk) hn h1 (h v h2)

theorem mem_of_lookup' {α β : Type} [BEq α] [LawfulBEq α] : ∀ {l : List (α × β)} {a : α} {b : β}, l.lookup a = some b → (a, b) ∈ l
  | [], _, _, h => by cases h
  | (k, v) :: r, a, b, h => by
    rw [List.lookup_cons] at h
    by_cases e : (a == k) = true
    · rw [e] at h; simp at h; subst h; rw [eq_of_beq e]; exact List.mem_cons_self
    · have e' : (a == k) = false := by simpa using e
      rw [e'] at h; exact List.mem_cons_of_mem _ (mem_of_lookup' h)

inductive CellI (B : Base) (Z : Fz) (φ : List Addr) (s : Shared) (c : Addr) (av : AV) : Prop
  | mk : ∀ v, s.heap.IsCell c (some v) → RelV B Z φ v av → CellI B Z φ s c av
theorem Rel.cell (R : Rel B Z φ env σ fr s) {x c av} (hc : env.cells.lookup x = some c) (hv : get σ.loc x = some av) : CellI B Z φ s c av := by
  have hm : (c, CellP B Z φ σ.loc x) ∈ frameE B Z φ env σ.loc := List.mem_cons_of_mem _ (List.mem_map.mpr ⟨(x, c), mem_of_lookup' hc, rfl⟩)
  obtain ⟨o, ho, v, hd, h⟩ := R.inv.ent _ (List.mem_append_left _ hm)
  obtain ⟨v', rfl, h2⟩ := h av hv
  exact ⟨v', ⟨o, ho, hd⟩, h2⟩
theorem r_cell {x pos av} (hk : F.sc.names.lookup x = some .cell) (hv : get σ.loc x = some av) (h : Q av σ) (hd : (x == ("__debug__" : Str)) = false) : WE B F (.Name x pos) Q σ := fun A env Z φ fr s hA hE R => by
  obtain ⟨c, hc⟩ := hE.cells x hk
  obtain ⟨v, h1, h2⟩ := R.cell hc hv
  exact wpAny_Name (wpAny_loadName_cell (by rw [hE.sc]; exact hE.kind) (by unfold Env.kindOf; rw [hE.sc]; exact hk) hc h1 (postV h2 R h)) hd

def BaseIn (B : Base) (Z : Fz) : Prop := ∀ b o, B.H.get? b = some o → (∀ t ∈ B.tabs, t.P ≠ b) → Z b = some o
def GlobIs (B : Base) (x : Str) (av : AV) : Prop := ∃ v, (B.mg x = some v ∨ B.mg x = none ∧ B.mb x = some v) ∧ ∀ Z φ, BaseIn B Z → RelV B Z φ v av
theorem Inv.gNs {E} (I : Inv B Z E s) : s.heap.Ns mainNs B.mg := by
  obtain ⟨o, es, ep, ho, r⟩ := B.gNs
  exact ⟨o, es, ep, I.fz _ _ (I.base _ _ ho fun t ht => (B.nt t ht).1), r⟩
theorem Inv.bNs {E} (I : Inv B Z E s) : s.heap.Ns builtinsNs B.mb := by
  obtain ⟨o, es, ep, ho, r⟩ := B.bNs
  exact ⟨o, es, ep, I.fz _ _ (I.base _ _ ho fun t ht => (B.nt t ht).2.1), r⟩
theorem r_global {x pos av} (hk : F.sc.names.lookup x = some .globalImplicit) (hg : GlobIs B x av) (h : Q av σ) (hd : (x == ("__debug__" : Str)) = false) : WE B F (.Name x pos) Q σ := fun A env Z φ fr s hA hE R => by
  obtain ⟨v, hv, hr⟩ := hg
  refine wpAny_Name ?_ hd
  rw [loadName_read (by rw [hE.sc]; exact hE.kind) (by unfold Env.kindOf; rw [hE.sc]; exact hk)]
  have g := R.inv.gNs
  have b := R.inv.bNs
  rw [← hE.gl] at g
  rw [← hE.bl] at b
  rcases hv with hv | ⟨h0, hv⟩
  · exact Calls.loadGlobal_global g hv (postV (hr Z φ R.inv.base) R h)
  · exact Calls.loadGlobal_builtin g h0 b hv (postV (hr Z φ R.inv.base) R h)

/-- a local name is stored -/
theorem w_store {x a loc' Qn} (hk : F.sc.names.lookup x = some .local) (hs : SetTo σ.loc x a loc') (h : Qn ⟨loc', σ.led⟩) : WSt B F x a Qn σ := fun A env Z φ fr s v hA hE hv R => by
  obtain ⟨es, hn, hr⟩ := R.ns
  have hg := hs.get
  refine wpAny_storeName_local (by unfold Env.kindOf; rw [hE.sc]; exact hk) hn (fun h' hn' hs' => ?_) (by rw [hE.sc, hE.kind]; rfl)
  obtain ⟨o', es', ep', ho', hd', hk', hf'⟩ := hn'
  refine ⟨Z, φ, ⟨loc', σ.led⟩, .refl _ _, ⟨?_, R.len⟩, h⟩
  have I := R.inv.upd (tk := s.toks + 1) (E1 := []) (a := env.locals) (p' := NsP B Z φ env.scope.names loc') rfl hs'.extBut ho' ⟨es', ep', hd', hk', fun y av h1 h2 => ?_⟩
  · refine I.weak ?_
    refine .cons (fun _ q => q) (Weak.append ?_ (Weak.refl _))
    have ne : ∀ c ∈ env.cells, c.1 ≠ x := fun c hc e => by have := hE.cellk c hc; rw [e, hk] at this; cases this
    revert ne
    generalize env.cells = cs
    induction cs with
    | nil => intro _; exact .nil
    | cons c r ih =>
      intro ne
      refine .cons (fun o ⟨v, q1, q2⟩ => ⟨v, q1, fun av q => q2 av ?_⟩) (ih fun c hc => ne c (List.mem_cons_of_mem _ hc))
      rw [hg] at q; simpa [ne c List.mem_cons_self] using q
  · rw [hg] at h2
    by_cases e : y = x
    · subst e; simp at h2; subst h2; exact ⟨v, by rw [hf']; simp, hv⟩
    · simp [e] at h2
      obtain ⟨u, q1, q2⟩ := hr y av h1 h2
      exact ⟨u, by rw [hf']; simp [e, q1], q2⟩

/-- a cell's name is stored -/
theorem w_storeC {x a loc' Qn} (hk : F.sc.names.lookup x = some .cell) (hs : SetTo σ.loc x a loc') (h : Qn ⟨loc', σ.led⟩) : WSt B F x a Qn σ := fun A env Z φ fr s v hA hE hv R => by
  obtain ⟨c, hc⟩ := hE.cells x hk
  have hg := hs.get
  have hm := mem_of_lookup' hc
  obtain ⟨C1, C2, hC⟩ := List.append_of_mem hm
  have hE1 : frameE B Z φ env σ.loc ++ (ledE B Z φ σ.led ++ fr) =
      ((env.locals, NsP B Z φ env.scope.names σ.loc) :: C1.map fun c => (c.2, CellP B Z φ σ.loc c.1)) ++ (c, CellP B Z φ σ.loc x) :: ((C2.map fun c => (c.2, CellP B Z φ σ.loc c.1)) ++ (ledE B Z φ σ.led ++ fr)) := by
    simp [frameE, hC]
  obtain ⟨o, ho, v₀, hd, -⟩ := R.inv.ent (c, CellP B Z φ σ.loc x) (by rw [hE1]; simp)
  refine wpAny_storeName_cell (by rw [hE.sc]; exact hE.kind) (by unfold Env.kindOf; rw [hE.sc]; exact hk) hc ⟨o, ho, hd⟩ fun h' hn' hs' => ?_
  obtain ⟨o', ho', hd'⟩ := hn'
  refine ⟨Z, φ, ⟨loc', σ.led⟩, .refl _ _, ⟨?_, R.len⟩, h⟩
  have I := R.inv.upd (tk := s.toks) (p' := CellP B Z φ loc' x) hE1 hs'.extBut ho' ⟨_, hd', fun av q => ⟨v, rfl, by rw [hg] at q; simp at q; subst q; exact hv⟩⟩
  have nd := hE.celln
  rw [hC] at nd
  simp only [List.map_append, List.map_cons] at nd
  have nd1 : ∀ d ∈ C1, d.1 ≠ x := fun d hd e => (List.nodup_append.mp nd).2.2 d.1 (List.mem_map_of_mem hd) x (by exact .head _) e
  have nd2 : ∀ d ∈ C2, d.1 ≠ x := fun d hd e => (List.nodup_cons.mp (List.nodup_append.mp nd).2.1).1 (e ▸ List.mem_map_of_mem hd)
  have wk : ∀ (cs : List (Str × Addr)), (∀ d ∈ cs, d.1 ≠ x) → Weak (cs.map fun c => (c.2, CellP B Z φ σ.loc c.1)) (cs.map fun c => (c.2, CellP B Z φ loc' c.1)) := by
    intro cs
    induction cs with
    | nil => intro _; exact .nil
    | cons d r ih =>
      intro ne
      refine .cons (fun o ⟨v, q1, q2⟩ => ⟨v, q1, fun av q => q2 av ?_⟩) (ih fun d hd => ne d (List.mem_cons_of_mem _ hd))
      rw [hg] at q; simpa [ne d List.mem_cons_self] using q
  have := I.weak (E' := ((env.locals, NsP B Z φ env.scope.names loc') :: C1.map fun c => (c.2, CellP B Z φ loc' c.1)) ++ (c, CellP B Z φ loc' x) :: ((C2.map fun c => (c.2, CellP B Z φ loc' c.1)) ++ (ledE B Z φ σ.led ++ fr)))
    (Weak.append (.cons (fun o ⟨es, ep, q1, q2, q3⟩ => ⟨es, ep, q1, q2, fun y av h1 h2 => q3 y av h1 ?_⟩) (wk C1 nd1)) (.cons (fun _ q => q) (Weak.append (wk C2 nd2) (Weak.refl _))))
  · simpa [frameE, hC] using this
  · rw [hg] at h2
    by_cases e : y = x
    · subst e; rw [hE.sc, hk] at h1; cases h1
    · simpa [e] using h2

/-! ### ints -/
theorem o_add {i j} (h : Q (.int (i + j)) σ) : W2 B F (binaryOp .Add) (.int i) (.int j) Q σ := fun A env Z φ fr s v u hA hE hv hu R => by
  obtain ⟨_, rfl⟩ := hv.int_i; obtain ⟨_, rfl⟩ := hu.int_i; exact wpAny_add_int (postV (.int ..) R.toks h)
theorem o_sub {i j} (h : Q (.int (i - j)) σ) : W2 B F (binaryOp .Sub) (.int i) (.int j) Q σ := fun A env Z φ fr s v u hA hE hv hu R => by
  obtain ⟨_, rfl⟩ := hv.int_i; obtain ⟨_, rfl⟩ := hu.int_i; exact sub_int' (postV (.int ..) R.toks h)
theorem o_mul {i j : Int} (hi : i.natAbs < 2 ^ 64) (h : Q (.int (i * j)) σ) : W2 B F (binaryOp .Mult) (.int i) (.int j) Q σ := fun A env Z φ fr s v u hA hE hv hu R => by
  obtain ⟨_, rfl⟩ := hv.int_i; obtain ⟨_, rfl⟩ := hu.int_i; exact P.mul_int (postV (.int ..) R.toks h) (IntMulOk.of_left (by have := hi; exact intBits_le this))
theorem o_div {i j : Int} (hj : 0 < j) (hj2 : j < 1000000) (h : Q (.int (i / j)) σ) : W2 B F (binaryOp .FloorDiv) (.int i) (.int j) Q σ := fun A env Z φ fr s v u hA hE hv hu R => by
  obtain ⟨_, rfl⟩ := hv.int_i; obtain ⟨_, rfl⟩ := hu.int_i
  refine floordiv_int (ar47 hj) ?_ (.inl (PyProof.noPylong_small (ar118 hj hj2)))
  rw [Int.fdiv_eq_ediv_of_nonneg _ (ar48 hj)]
  exact postV (.int ..) R.toks h
theorem o_mod {i j : Int} (hj : 0 < j) (h : Q (.int (i % j)) σ) : W2 B F (binaryOp .Mod) (.int i) (.int j) Q σ := fun A env Z φ fr s v u hA hE hv hu R => by
  obtain ⟨_, rfl⟩ := hv.int_i; obtain ⟨_, rfl⟩ := hu.int_i
  refine mod_int' (ar47 hj) ?_
  rw [Int.fmod_eq_emod_of_nonneg _ (ar48 hj)]
  exact postV (.int ..) R.toks h
theorem o_shl {i j : Int} (h0 : 0 ≤ j) (h1 : j ≤ 1000000) (hi : i.natAbs < 2 ^ 64) (h : Q (.int (i * 2 ^ j.toNat)) σ) : W2 B F (binaryOp .LShift) (.int i) (.int j) Q σ := fun A env Z φ fr s v u hA hE hv hu R => by
  obtain ⟨_, rfl⟩ := hv.int_i; obtain ⟨_, rfl⟩ := hu.int_i; exact lshift_int_small h0 h1 hi (postV (.int ..) R.toks h)
theorem o_and {i j : Int} (h : Q (.int (Builtin.bitAnd i j)) σ) : W2 B F (binaryOp .BitAnd) (.int i) (.int j) Q σ := fun A env Z φ fr s v u hA hE hv hu R => by
  obtain ⟨_, rfl⟩ := hv.int_i; obtain ⟨_, rfl⟩ := hu.int_i; exact and_int (postV (.int ..) R.toks h)
theorem o_neg {i : Int} (h : Q (.int (-i)) σ) : W1 B F (unaryOp .USub) (.int i) Q σ := fun A env Z φ fr s v hA hE hv R => by
  obtain ⟨_, rfl⟩ := hv.int_i; exact P.neg_int (postV (.int ..) R.toks h)
theorem o_iadd {i j} (h : Q (.int (i + j)) σ) : W2 B F (inplaceOp .Add) (.int i) (.int j) Q σ := fun A env Z φ fr s v u hA hE hv hu R => by
  obtain ⟨_, rfl⟩ := hv.int_i; obtain ⟨_, rfl⟩ := hu.int_i; exact wpAny_iadd_int (postV (.int ..) R.toks h)
theorem o_isub {i j} (h : Q (.int (i - j)) σ) : W2 B F (inplaceOp .Sub) (.int i) (.int j) Q σ := fun A env Z φ fr s v u hA hE hv hu R => by
  obtain ⟨_, rfl⟩ := hv.int_i; obtain ⟨_, rfl⟩ := hu.int_i; exact PyProof.Rows.isub_int (postV (.int ..) R.toks h)

theorem c_lt {i j : Int} (h : Q (.bool (decide (i < j))) σ) : W2 B F (compareOp .Lt) (.int i) (.int j) Q σ := fun A env Z φ fr s v u hA hE hv hu R => by
  obtain ⟨_, rfl⟩ := hv.int_i; obtain ⟨_, rfl⟩ := hu.int_i; exact P.lt_int (postV (.bool ..) R h)
theorem c_le {i j : Int} (h : Q (.bool (decide (i ≤ j))) σ) : W2 B F (compareOp .LtE) (.int i) (.int j) Q σ := fun A env Z φ fr s v u hA hE hv hu R => by
  obtain ⟨_, rfl⟩ := hv.int_i; obtain ⟨_, rfl⟩ := hu.int_i; exact P.le_int (postV (.bool ..) R h)
theorem c_gt {i j : Int} (h : Q (.bool (decide (i > j))) σ) : W2 B F (compareOp .Gt) (.int i) (.int j) Q σ := fun A env Z φ fr s v u hA hE hv hu R => by
  obtain ⟨_, rfl⟩ := hv.int_i; obtain ⟨_, rfl⟩ := hu.int_i; exact P.gt_int (postV (.bool ..) R h)
theorem c_ge {i j : Int} (h : Q (.bool (decide (i ≥ j))) σ) : W2 B F (compareOp .GtE) (.int i) (.int j) Q σ := fun A env Z φ fr s v u hA hE hv hu R => by
  obtain ⟨_, rfl⟩ := hv.int_i; obtain ⟨_, rfl⟩ := hu.int_i; exact P.ge_int (postV (.bool ..) R h)
theorem c_eq {i j : Int} (h : Q (.bool (i == j)) σ) : W2 B F (compareOp .Eq) (.int i) (.int j) Q σ := fun A env Z φ fr s v u hA hE hv hu R => by
  obtain ⟨_, rfl⟩ := hv.int_i; obtain ⟨_, rfl⟩ := hu.int_i; exact P.eq_int (postV (.bool ..) R h)

/-! is None -/
theorem c_isNone_self (h : Q (.bool true) σ) : W2 B F (compareOp .Is) .none .none Q σ := fun A env Z φ fr s v u hA hE hv hu R => by
  obtain rfl := hv.none_i; obtain rfl := hu.none_i; exact wpAny_is_self rfl (postV (.bool ..) R h)
theorem plainIs_none (v : Value) (h : ∀ id, v ≠ .builtin id) : plainIs v .none = true := by cases v <;> first | rfl | exact absurd rfl (h _)
theorem RelV.ne_bi {v a} (h : RelV B Z φ v a) (hn : ∀ id, a ≠ .bi id) : ∀ id, v ≠ .builtin id := by rintro id rfl; cases h; exact hn _ rfl
theorem RelV.ne_none {v a} (h : RelV B Z φ v a) (hn : a ≠ .none) : v ≠ .none := by rintro rfl; cases h; exact hn rfl
theorem c_isNone_other {a} (ha : a ≠ .none) (hb : ∀ id, a ≠ .bi id) (h : Q (.bool false) σ) : W2 B F (compareOp .Is) a .none Q σ := fun A env Z φ fr s v u hA hE hv hu R => by
  obtain rfl := hu.none_i; exact wpAny_is_other (plainIs_none v (hv.ne_bi hb)) (hv.ne_none ha) (postV (.bool ..) R h)
theorem c_isNotNone_self (h : Q (.bool false) σ) : W2 B F (compareOp .IsNot) .none .none Q σ := fun A env Z φ fr s v u hA hE hv hu R => by
  obtain rfl := hv.none_i; obtain rfl := hu.none_i; exact wpAny_isNot_self rfl (postV (.bool ..) R h)
theorem c_isNotNone_other {a} (ha : a ≠ .none) (hb : ∀ id, a ≠ .bi id) (h : Q (.bool true) σ) : W2 B F (compareOp .IsNot) a .none Q σ := fun A env Z φ fr s v u hA hE hv hu R => by
  obtain rfl := hu.none_i; exact wpAny_isNot_other (plainIs_none v (hv.ne_bi hb)) (hv.ne_none ha) (postV (.bool ..) R h)

/-! truth -/
theorem t_bool {b} {Q : Bool → St → Prop} (h : Q b σ) : WTr B F (.bool b) Q σ := fun A env Z φ fr s v hA hE hv R => by
  obtain rfl := hv.bool_i; exact wpAny_truthy_bool (postB R h)
theorem t_int {i : Int} {Q : Bool → St → Prop} (h : Q (i != 0) σ) : WTr B F (.int i) Q σ := fun A env Z φ fr s v hA hE hv R => by
  obtain ⟨_, rfl⟩ := hv.int_i; exact P.truthy_int (postB R h)

/-- x += e -/
theorem s_aug {x pos' op e pos Qn Qr a} (hk : F.sc.names.lookup x = some .local) (hv : get σ.loc x = some a)
    (h : WE B F e (fun b σ1 => W2 B F (inplaceOp op) a b (fun c σ2 => WSt B F x c Qn σ2) σ1) σ) : WS B F (.AugAssign (.Name x pos') op e pos) Qn Qr σ := fun A env Z φ fr s hA hE R =>
  wpAny_AugAssign_Name (l_local hE R hk hv fun v rv => wpAny_mono (h A env Z φ fr s hA hE R) (fun u s1 ⟨Z1, φ1, σ1, b, x1, ru, R1, h1⟩ =>
    wpAny_mono (h1 A env Z1 φ1 fr s1 v u hA hE (rv.mono x1) ru R1) (fun c s2 ⟨Z2, φ2, σ2, a2, x2, rc, R2, h2⟩ => wpAny_mono (h2 A env Z2 φ2 fr s2 c hA hE rc R2)
      (fun _ s3 ⟨Z3, φ3, σ3, x3, R3, h3⟩ => ⟨Z3, φ3, σ3, (x1.trans x2).trans x3, R3, h3⟩) fun _ _ e => e) fun _ _ e => e) fun _ _ e => e)

end Mine
end
section
open PySem PySem.W PyProof.Rows
set_option Elab.async false
set_option linter.unusedVariables false
namespace Mine
variable {B : Base} {Z Z' : Fz} {φ φ' : List Addr} {F : Frm} {σ : St} {Q : AV → St → Prop} {env : Env} {fr : List Ent} {s : Shared}

/-! ### the ledger -/
theorem entM_live {a : Addr} {mo : MO} (h : mo ≠ .gone) : entM B Z φ a mo = [(a, MOP B Z φ mo)] := by
  cases mo with
  | gone => exact absurd rfl h
  | list l => rfl
  | dict l => rfl
theorem ledE_append {led : List MO} {a : Addr} {mo : MO} {ψ : List Addr} (h : ψ.length = led.length) (hm : mo ≠ .gone) :
    (((ψ ++ [a]).zip (led ++ [mo])).flatMap fun p => entM B Z φ p.1 p.2) = ((ψ.zip led).flatMap fun p => entM B Z φ p.1 p.2) ++ [(a, MOP B Z φ mo)] := by
  rw [List.zip_append h, List.flatMap_append]; simp [entM_live hm]

/-- a new object, on the ledger -/
theorem Rel.alloc (R : Rel B Z φ env σ fr s) {h' : Heap} {tk : Nat} {a : Addr} {mo : MO} {o : Obj} (hg : mo ≠ .gone) (hk : ∀ b o, s.heap.get? b = some o → h'.get? b = some o) (ha : s.heap.objs.size ≤ a) (ho : h'.get? a = some o)
    (hm : MOP B Z φ mo o) : Rel B Z (φ ++ [a]) env ⟨σ.loc, σ.led ++ [mo]⟩ fr { s with heap := h', toks := tk } := by
  have x : Ext Z φ Z (φ ++ [a]) := ⟨.refl _, List.prefix_append _ _⟩
  have I := R.inv.new (tk := tk) (p := MOP B Z (φ ++ [a]) mo) hk ha ho (hm.mono x)
  refine ⟨?_, by simp [R.len]⟩
  have J := I.weak (.cons (fun _ q => q) ((weak_frame x env σ.loc).append ((weak_led x φ σ.led).append (Weak.refl fr))))
  refine J.perm ?_
  show List.Perm _ (frameE B Z (φ ++ [a]) env σ.loc ++ (((φ ++ [a]).zip (σ.led ++ [mo])).flatMap _ ++ fr))
  rw [ledE_append R.len hg]
  simp only [List.append_assoc, List.singleton_append]
  refine List.Perm.trans ?_ (List.Perm.append_left _ (List.perm_middle.symm))
  exact List.perm_middle.symm

/-- a new object, frozen -/
theorem Rel.allocZ (R : Rel B Z φ env σ fr s) {h' : Heap} {tk : Nat} {a : Addr} {o : Obj} (hk : ∀ b o, s.heap.get? b = some o → h'.get? b = some o) (ha : s.heap.objs.size ≤ a) (ho : h'.get? a = some o) :
    Rel B (Z.put a o) φ env σ fr { s with heap := h', toks := tk } ∧ Ext Z φ (Z.put a o) φ :=
  have x : Ext Z φ (Z.put a o) φ := ⟨Fz.le.put (R.inv.zfresh ha), List.prefix_refl _⟩
  ⟨R.mono x (R.inv.newZ hk ha ho), x⟩

inductive ZSplit (φ : List Addr) (led : List MO) (i : Nat) (mo : MO) : Prop
  | mk (a φ1 φ2 l1 l2) : φ[i]? = some a → φ = φ1 ++ a :: φ2 → led = l1 ++ mo :: l2 → φ1.length = l1.length → l1.length = i → ZSplit φ led i mo
theorem zip_split {φ : List Addr} : ∀ {led : List MO} {i : Nat} {mo : MO}, φ.length = led.length → led[i]? = some mo → ZSplit φ led i mo := by
  induction φ with
  | nil =>
    intro led i mo h e
    cases led with
    | nil => cases e
    | cons => cases h
  | cons a φ ih =>
    intro led i mo h e
    cases led with
    | nil => cases h
    | cons m led =>
      cases i with
      | zero => obtain rfl := Option.some.inj e; exact ⟨a, [], φ, [], led, rfl, rfl, rfl, rfl, rfl⟩
      | succ i =>
        have q := ih (Nat.succ.inj h) e
        obtain ⟨b, φ1, φ2, l1, l2, h1, h2, h3, h4, h5⟩ := q
        exact ⟨b, a :: φ1, φ2, m :: l1, l2, h1, congrArg _ h2, congrArg _ h3, congrArg (· + 1) h4, congrArg (· + 1) h5⟩

theorem led_split {χ : List Addr} {l1 l2 : List MO} {φ1 φ2 : List Addr} {a : Addr} {m : MO} (h : φ1.length = l1.length) : (((φ1 ++ a :: φ2).zip (l1 ++ m :: l2)).flatMap fun p => entM B Z φ p.1 p.2) =
    ((φ1.zip l1).flatMap fun p => entM B Z φ p.1 p.2) ++ (entM B Z φ a m ++ ((φ2.zip l2).flatMap fun p => entM B Z φ p.1 p.2)) := by
  rw [List.zip_append h, List.flatMap_append]; rfl
inductive LedI (B : Base) (Z : Fz) (φ : List Addr) (env : Env) (σ : St) (fr : List Ent) (s : Shared) (i : Nat) (mo : MO) : Prop
  | mk : ∀ a o, φ[i]? = some a → s.heap.get? a = some o → MOP B Z φ mo o → (a, MOP B Z φ mo) ∈ frameE B Z φ env σ.loc ++ (ledE B Z φ σ.led ++ fr) → LedI B Z φ env σ fr s i mo
theorem Rel.led (R : Rel B Z φ env σ fr s) {i : Nat} {mo} (hg : mo ≠ .gone) (h : σ.led[i]? = some mo) : LedI B Z φ env σ fr s i mo := by
  obtain ⟨a, φ1, φ2, l1, l2, h1, h2, h3, h4, h5⟩ := zip_split R.len h
  have hm : (a, MOP B Z φ mo) ∈ frameE B Z φ env σ.loc ++ (ledE B Z φ σ.led ++ fr) := by
    refine List.mem_append_right _ (List.mem_append_left _ ?_)
    refine List.mem_flatMap.mpr ⟨(a, mo), ?_, by rw [entM_live hg]; exact .head _⟩
    rw [h2, h3, List.zip_append h4]; simp
  obtain ⟨o, ho, hp⟩ := R.inv.ent _ hm
  exact ⟨a, o, h1, ho, hp, hm⟩

theorem set_mid {α : Type} : ∀ (l1 l2 : List α) (x y : α), (l1 ++ x :: l2).set l1.length y = l1 ++ y :: l2
  | [], _, _, _ => rfl
  | _ :: l1, l2, x, y => by simp [set_mid l1 l2 x y]

/-- an object of the ledger turns -/
theorem Rel.upd (R : Rel B Z φ env σ fr s) {i : Nat} {mo mo' a o'} {h' : Heap} {tk : Nat} (hg : mo ≠ .gone) (hg' : mo' ≠ .gone) (h : σ.led[i]? = some mo) (ha : φ[i]? = some a) (hx : Heap.ExtBut a s.heap h') (ho : h'.get? a = some o') (hm : MOP B Z φ mo' o') :
    Rel B Z φ env ⟨σ.loc, σ.led.set i mo'⟩ fr { s with heap := h', toks := tk } := by
  obtain ⟨a', φ1, φ2, l1, l2, h1, h2, h3, h4, h5⟩ := zip_split R.len h
  obtain rfl : a' = a := Option.some.inj (h1.symm.trans ha)
  have hz : ∀ m, m ≠ .gone → ((φ.zip (l1 ++ m :: l2)).flatMap fun p => entM B Z φ p.1 p.2) = ((φ1.zip l1).flatMap fun p => entM B Z φ p.1 p.2) ++ (a', MOP B Z φ m) :: ((φ2.zip l2).flatMap fun p => entM B Z φ p.1 p.2) := fun m hm => by
    have := led_split (B := B) (Z := Z) (φ := φ) (χ := φ) (φ1 := φ1) (φ2 := φ2) (a := a') (m := m) (l1 := l1) (l2 := l2) h4
    rw [← h2, entM_live hm] at this
    simpa using this
  refine ⟨?_, by simp [R.len]⟩
  have I := R.inv.upd (tk := tk) (E1 := frameE B Z φ env σ.loc ++ ((φ1.zip l1).flatMap fun p => entM B Z φ p.1 p.2)) (E2 := ((φ2.zip l2).flatMap fun p => entM B Z φ p.1 p.2) ++ fr) (a := a') (p := MOP B Z φ mo) (p' := MOP B Z φ mo')
    (by unfold ledE; rw [h3, hz _ hg]; simp) hx ho hm
  have e : σ.led.set i mo' = l1 ++ mo' :: l2 := by rw [h3, ← h5, set_mid]
  unfold ledE
  simp only [e]
  rw [hz _ hg']
  simpa using I

/-! ### lists, read -/
inductive LstOf (led : List MO) : AV → List AV → Prop
  | fz (l) : LstOf led (.lst l) l
  | md {i l} : led[i]? = some (.list l) → LstOf led (.ref i) l

inductive LstI (B : Base) (Z : Fz) (φ : List Addr) (s : Shared) (v : Value) (l : List AV) : Prop
  | mk : ∀ p items n, v = .ref p → IsL s.heap p items n → RelVs B Z φ items.toList l → LstI B Z φ s v l
theorem Rel.lst (R : Rel B Z φ env σ fr s) {a l v} (h : LstOf σ.led a l) (hv : RelV B Z φ v a) : LstI B Z φ s v l := by
  cases h with
  | fz => cases hv with | lst h1 h2 => exact ⟨_, _, _, rfl, R.inv.fz _ _ h1, h2⟩
  | md h => cases hv with
    | ref hi =>
      obtain ⟨p, o, h1, h2, ⟨items, n, rfl, h4⟩, _⟩ := R.led (by simp) h
      obtain rfl := Option.some.inj (h1.symm.trans hi)
      exact ⟨_, items, n, rfl, h2, h4⟩

theorem lsize {items : Array Value} {l : List AV} (r : RelVs B Z φ items.toList l) : items.size = l.length := by rw [← Array.length_toList]; exact r.length

/-! ### displays -/
def WL (B : Base) (F : Frm) (es : List Expr) (pos : Pos) (Q : List AV → St → Prop) (σ : St) : Prop :=
  ∀ A env Z φ fr s, Rm F.ht A → EnvOk F env → Rel B Z φ env σ fr s → wpAny (model B.prog B.w) A (spliced (backTo pos (starEach es env))) (PostL B env Z φ fr Q) NoE s
theorem l_nil {pos} {Q : List AV → St → Prop} (h : Q [] σ) : WL B F [] pos Q σ := fun A env Z φ fr s hA hE R => Calls.spliced_nil ⟨Z, φ, σ, [], .refl _ _, .nil, R, h⟩
theorem l_cons {e es pos} {Q : List AV → St → Prop} (h : WE B F e (fun a σ1 => WL B F es pos (fun l σ2 => Q (a :: l) σ2) σ1) σ) (hs : ∀ env, starEach (e :: es) env = (false, eval e env) :: starEach es env) : WL B F (e :: es) pos Q σ :=
  fun A env Z φ fr s hA hE R => by
    rw [hs]
    exact Calls.spliced_cons (wpAny_mono (h A env Z φ fr s hA hE R) (fun v s1 ⟨Z1, φ1, σ1, a, x1, rv, R1, h1⟩ => wpAny_mono (h1 A env Z1 φ1 fr s1 hA hE R1)
      (fun vs s2 ⟨Z2, φ2, σ2, l, x2, rl, R2, h2⟩ => ⟨Z2, φ2, σ2, a :: l, x1.trans x2, .cons (rv.mono x2) rl, R2, h2⟩) fun _ _ e => e) fun _ _ e => e)

theorem r_list {es pos} (h : WL B F es pos (fun l σ1 => l.length ≤ 1000000 ∧ Q (.ref σ1.led.length) ⟨σ1.loc, σ1.led ++ [.list l]⟩) σ) : WE B F (.List es pos) Q σ := fun A env Z φ fr s hA hE R => by
  refine List_ (wpAny_mono (h A env Z φ fr s hA hE R) (fun vs s1 ⟨Z1, φ1, σ1, l, x1, rl, R1, hl, h1⟩ => ?_) fun _ _ e => e)
  refine wpAny_newObj_type ?_ (by show vs.toArray.size ≤ sizeLine; rw [List.size_toArray, rl.length, sizeLine_eq]; exact ar1 hl)
  have R2 := R1.alloc (tk := s1.toks) (mo := .list l) (by simp) (fun b o e => Heap.get?_push_of_some { cls := .type "list", data := .seq vs.toArray } e) (Nat.le_refl _) (Heap.get?_push_size _ rfl) ⟨vs.toArray, 0, rfl, by assumption⟩
  refine ⟨Z1, _, _, .ref σ1.led.length, x1.trans ⟨.refl _, List.prefix_append _ _⟩, .ref ?_, R2, h1⟩
  rw [← R1.len]; simp
theorem r_tuple {es k pos} (h : WL B F es pos (fun l σ1 => l.length ≤ 1000000 ∧ Q (.tup l) σ1) σ) : WE B F (.Tuple es k pos) Q σ := fun A env Z φ fr s hA hE R => by
  refine Tuple_ (wpAny_mono (h A env Z φ fr s hA hE R) (fun vs s1 ⟨Z1, φ1, σ1, l, x1, rl, R1, hl, h1⟩ => ?_) fun _ _ e => e)
  refine wpAny_newObj_type ?_ (by show vs.toArray.size ≤ sizeLine; rw [List.size_toArray, rl.length, sizeLine_eq]; exact ar1 hl)
  obtain ⟨R2, x2⟩ := R1.allocZ (tk := s1.toks) (fun b o e => Heap.get?_push_of_some { cls := .type "tuple", data := .seq vs.toArray } e) (Nat.le_refl _) (Heap.get?_push_size _ rfl)
  exact ⟨_, _, _, .tup l, x1.trans x2, .tup (Fz.put_self ..) rfl rfl (by simpa using rl.mono x2), R2, h1⟩

/-! ### subscripts -/
def WIx (B : Base) (F : Frm) (a i : AV) (Q : AV → St → Prop) (σ : St) : Prop :=
  ∀ A env Z φ fr s v u, Rm F.ht A → EnvOk F env → RelV B Z φ v a → RelV B Z φ u i → Rel B Z φ env σ fr s →
    ∃ T id, s.TypeIs v T ∧ typeLookup (.type T) "__getitem__" = pure (some (.builtin id)) ∧ wpAny (model B.prog B.w) A (getItem v u) (PostV B env Z φ fr Q) NoE s
theorem r_sub {v i pos} (h : WE B F v (fun a σ1 => WE B F i (fun j σ2 => WIx B F a j Q σ2) σ1) σ) (hs : ∀ o j, subscripted i false o j = operate [o, j] (getItem o j)) : WE B F (.Subscript v i pos) Q σ := fun A env Z φ fr s hA hE R =>
  Subscript_ (wpAny_mono (h A env Z φ fr s hA hE R) (fun v s1 ⟨Z1, φ1, σ1, a, x1, rv, R1, h1⟩ => wpAny_mono (h1 A env Z1 φ1 fr s1 hA hE R1) (fun u s2 ⟨Z2, φ2, σ2, b, x2, ru, R2, h2⟩ => by
    obtain ⟨T, id, hT, hl, hg⟩ := h2 A env Z2 φ2 fr s2 v u hA hE (rv.mono x2) ru R2
    exact tail_any hT hl (wpAny_mono hg (fun _ _ p => p.up (x1.trans x2)) fun _ _ e => e) (hs v u)) fun _ _ e => e) fun _ _ e => e)
theorem ix_list {a l x} {k : Int} (h1 : LstOf σ.led a l) (h0 : 0 ≤ k) (h2 : k < 2 ^ 63) (hx : l[k.toNat]? = some x) (h : Q x σ) : WIx B F a (.int k) Q σ := fun A env Z φ fr s v u hA hE hv hu R => by
  obtain ⟨p, items, n, rfl, hl, rl⟩ := R.lst h1 hv
  obtain ⟨_, rfl⟩ := hu.int_i
  obtain ⟨y, e1, e2⟩ := rl.get hx
  exact ⟨"list", _, hl.isList.typeIs, slot_list_getitem.lookup, wpAny_getItem_list hl.isList h0 h2 (by simpa using e1) (postV e2 R h)⟩
theorem ix_last {a l x} (h1 : LstOf σ.led a l) (hx : l.getLast? = some x) (h : Q x σ) : WIx B F a (.int (-1)) Q σ := fun A env Z φ fr s v u hA hE hv hu R => by
  obtain ⟨p, items, n, rfl, hl, rl⟩ := R.lst h1 hv
  obtain ⟨_, rfl⟩ := hu.int_i
  rw [List.getLast?_eq_getElem?] at hx
  obtain ⟨y, e1, e2⟩ := rl.get hx
  have hn : items.size = l.length := lsize rl
  have hp : 0 < l.length := by
    cases l with
    | nil => simp at hx
    | cons => simp
  refine ⟨"list", _, hl.isList.typeIs, slot_list_getitem.lookup, wpAny_getItem_list_neg hl.isList (by constructor) (ar312 hn hp) (by constructor) (x := y) ?_ (postV e2 R h)⟩
  have : ((-1 : Int) + (items.size : Int)).toNat = l.length - 1 := ar313 hn
  rw [this]; simpa using e1
theorem ix_tup {l x} {k : Int} (h0 : 0 ≤ k) (h2 : k < 2 ^ 63) (hx : l[k.toNat]? = some x) (h : Q x σ) : WIx B F (.tup l) (.int k) Q σ := fun A env Z φ fr s v u hA hE hv hu R => by
  obtain ⟨_, rfl⟩ := hu.int_i
  obtain ⟨a, o, items, n, rfl, q1, q2, q3, q4⟩ := hv.tup_i
  have ht : IsTup s.heap a items := ⟨o, R.inv.fz _ _ q1, q2, n, q3⟩
  obtain ⟨y, e1, e2⟩ := q4.get hx
  have hlt : k.toNat < items.size := by
    have := (List.getElem?_eq_some_iff.mp e1).1
    simpa using this
  refine ⟨"tuple", _, ht.typeIs, slot_tuple_getitem.lookup, getItem_tuple (j := k.toNat) ht (ar314 h0) h2 ?_ (by simpa using e1) (postV e2 R h)⟩
  unfold seqIndex?
  have h3 : ¬ k < 0 := ar72 h0
  have h4 : k < (items.size : Int) := ar315 hlt
  simp [h3, h4]

end Mine
end
section
open PySem PySem.W PyProof.Rows
set_option Elab.async false
set_option linter.unusedVariables false
namespace Mine
variable {B : Base} {Z Z' : Fz} {φ φ' : List Addr} {F : Frm} {σ : St} {Q : AV → St → Prop} {env : Env} {fr : List Ent} {s : Shared}

/-! ### slices -/
theorem slice_end {value : Expr} {A : Around} {lo hi : Option Expr} {p : Pos} {vl vu : Value} {l u : Option Int} {q : Addr} {items : Array Value} {n : Nat} {al : List AV} {r : List AV} (R : Rel B Z φ env σ fr s) (hL : IsL s.heap q items n) (pl : IsPart vl l) (pu : IsPart vu u)
    (hz : items.size ≤ sizeLine) (hr : RelVs B Z φ (slicePick items l u none).toList r) (h : Q (.lst r) σ) :
    wpAny (model B.prog B.w) A (subscriptTail value (.Slice lo hi none p) (.ref q) (.ref s.heap.objs.size)) (PostV B env Z φ fr Q) NoE { s with heap := s.heap.push { cls := .type "slice", data := .fields #[vl, vu, .none] } } := by
  have hL' := hL.push { cls := .type "slice", data := .fields #[vl, vu, .none] }
  refine tail_any (T := "list") (ops := [.ref s.heap.objs.size, .ref q]) (Heap.IsList.typeIs (s := { s with heap := s.heap.push { cls := .type "slice", data := .fields #[vl, vu, .none] } }) hL'.isList) slot_list_getitem.lookup
    (wpAny_getItem_list_slice hL'.isList (Heap.IsSliceOf.new ..) pl pu .none (by decide +kernel) ?_ hz) rfl
  have k1 : ∀ b o, s.heap.get? b = some o → ((s.heap.push { cls := .type "slice", data := .fields #[vl, vu, .none] }).push { cls := .type "list", data := .seq (slicePick items l u none) }).get? b = some o :=
    fun b o e => Heap.get?_push_of_some _ (Heap.get?_push_of_some _ e)
  obtain ⟨R2, x2⟩ := R.allocZ (tk := s.toks) (a := (s.heap.push { cls := .type "slice", data := .fields #[vl, vu, .none] }).objs.size) k1 (by rw [Heap.size_push]; exact ar16) (Heap.get?_push_size _ rfl)
  exact ⟨_, _, σ, .lst r, x2, .lst (Fz.put_self ..) (hr.mono x2), R2, h⟩

inductive UptoP (a : AV) (Q : AV → St → Prop) (j : AV) (σ2 : St) : Prop
  | mk (l k) : LstOf σ2.led a l → j = .int k → 0 ≤ k → l.length ≤ 1000000 → Q (.lst (l.take k.toNat)) σ2 → UptoP a Q j σ2
inductive FromP (a : AV) (Q : AV → St → Prop) (j : AV) (σ2 : St) : Prop
  | mk (l k) : LstOf σ2.led a l → j = .int k → 0 ≤ k → l.length ≤ 1000000 → Q (.lst (l.drop k.toNat)) σ2 → FromP a Q j σ2
theorem r_upto {v e p pos} (h : WE B F v (fun a σ1 => WE B F e (fun j σ2 => UptoP a Q j σ2) σ1) σ) :
    WE B F (.Subscript v (.Slice none (some e) none p) pos) Q σ := fun A env Z φ fr s hA hE R =>
  Subscript_ (wpAny_mono (h A env Z φ fr s hA hE R) (fun v s1 ⟨Z1, φ1, σ1, a, x1, rv, R1, h1⟩ =>
    wpAny_Slice (wpAny_evalPart_none (wpAny_evalPart_some (wpAny_mono (h1 A env Z1 φ1 fr s1 hA hE R1) (fun u s2 ⟨Z2, φ2, σ2, b, x2, ru, R2, l, k, hl, hj, h0, hz, h2⟩ => wpAny_evalPart_none (by
      subst hj
      obtain ⟨t, rfl⟩ := ru.int_i
      obtain ⟨q, items, n, rfl, hL, rl⟩ := R2.lst hl (rv.mono x2)
      have hsz : items.size ≤ sizeLine := by rw [lsize rl, sizeLine_eq]; exact ar1 hz
      obtain ⟨j, rfl⟩ := Int.eq_ofNat_of_zero_le h0
      refine wpAny_mono (slice_end (al := l) R2 hL .none (.int _ t) hsz (r := l.take j) ?_ h2) (fun _ _ p => p.up (x1.trans x2)) fun _ _ e => e
      rw [slicePick_upto']; simpa using rl.take j)) fun _ _ e => e)))) fun _ _ e => e)
theorem r_from {v e p pos} (h : WE B F v (fun a σ1 => WE B F e (fun j σ2 => FromP a Q j σ2) σ1) σ) :
    WE B F (.Subscript v (.Slice (some e) none none p) pos) Q σ := fun A env Z φ fr s hA hE R =>
  Subscript_ (wpAny_mono (h A env Z φ fr s hA hE R) (fun v s1 ⟨Z1, φ1, σ1, a, x1, rv, R1, h1⟩ =>
    wpAny_Slice (wpAny_evalPart_some (wpAny_mono (h1 A env Z1 φ1 fr s1 hA hE R1) (fun u s2 ⟨Z2, φ2, σ2, b, x2, ru, R2, l, k, hl, hj, h0, hz, h2⟩ => wpAny_evalPart_none (wpAny_evalPart_none (by
      subst hj
      obtain ⟨t, rfl⟩ := ru.int_i
      obtain ⟨q, items, n, rfl, hL, rl⟩ := R2.lst hl (rv.mono x2)
      have hsz : items.size ≤ sizeLine := by rw [lsize rl, sizeLine_eq]; exact ar1 hz
      obtain ⟨j, rfl⟩ := Int.eq_ofNat_of_zero_le h0
      refine wpAny_mono (slice_end (al := l) R2 hL (.int _ t) .none hsz (r := l.drop j) ?_ h2) (fun _ _ p => p.up (x1.trans x2)) fun _ _ e => e
      rw [slicePick_from']; simpa using rl.drop j))) fun _ _ e => e))) fun _ _ e => e)

/-! ### lists: +, * -/
theorem o_addl {a b l m} (h1 : LstOf σ.led a l) (h2 : LstOf σ.led b m) (hz : l.length + m.length ≤ 1000000) (h : Q (.lst (l ++ m)) σ) : W2 B F (binaryOp .Add) a b Q σ := fun A env Z φ fr s v u hA hE hv hu R => by
  obtain ⟨p, items, n, rfl, hL, rl⟩ := R.lst h1 hv
  obtain ⟨p2, items2, n2, rfl, hL2, rl2⟩ := R.lst h2 hu
  refine P.add_list hL hL2 ?_ (by rw [lsize rl, lsize rl2, sizeLine_eq]; exact ar373 hz)
  obtain ⟨R2, x2⟩ := R.allocZ (tk := s.toks) (fun b o e => Heap.get?_push_of_some { cls := .type "list", data := .seq (items ++ items2) } e) (Nat.le_refl _) (Heap.get?_push_size _ rfl)
  exact ⟨_, _, σ, .lst (l ++ m), x2, .lst (Fz.put_self ..) (by simpa using (rl.append rl2).mono x2), R2, h⟩
theorem foldl_rep (items : Array Value) : ∀ (k : Nat) (acc : Array Value), (List.foldl (fun x1 x2 => x1 ++ x2) acc (List.replicate k items)).toList = acc.toList ++ (List.replicate k items.toList).flatten
  | 0, acc => by simp
  | k + 1, acc => by rw [List.replicate_succ, List.foldl_cons, foldl_rep items k, List.replicate_succ]; simp
theorem RelVs.rep {vs : List Value} {as : List AV} (h : RelVs B Z φ vs as) : ∀ k : Nat, RelVs B Z φ (List.replicate k vs).flatten (List.replicate k as).flatten
  | 0 => .nil
  | k + 1 => by rw [List.replicate_succ, List.replicate_succ, List.flatten_cons, List.flatten_cons]; exact h.append (h.rep k)
theorem o_mull {a x} {k : Int} (h1 : LstOf σ.led a [x]) (h0 : 0 ≤ k) (hk : k ≤ 1000000) (h : Q (.lst (List.replicate k.toNat x)) σ) : W2 B F (binaryOp .Mult) a (.int k) Q σ := fun A env Z φ fr s v u hA hE hv hu R => by
  obtain ⟨p, items, n, rfl, hL, rl⟩ := R.lst h1 hv
  obtain ⟨t, rfl⟩ := hu.int_i
  have hsz : items.size = 1 := lsize rl
  have hne : items.isEmpty = false := by rw [Array.isEmpty_eq_false_iff]; intro e; subst e; simp at hsz
  refine wpAny_binaryOp_repeat_ref (T := "list") (U := "int") (by decide) ⟨_, hL, rfl⟩ (fun s' => typeIs_int s' k t) noFill_list_mul PySem.F.fills_int_mul PySem.F.slot_int_rmul repeat_list PySem.F.slot_int_index.lookup
    (call_meets PySem.F.slot_int_rmul (typeIs_int s k t) PySem.F.entry_int_rmul (PySem.F.args_int_rmul_2 _ _) (int___rmul___int_list k t p items n)
      ⟨hL, rfl, ⟨_, hL, rfl⟩, call_meets PySem.F.slot_list_mul ⟨_, hL, rfl⟩ PySem.F.entry_list_mul (PySem.F.args_list_mul_2 _ _)
        (AutoListH.list___mul___list_int_3 p items n k t (by simp [Builtin.List.listFitsIndex]; exact ar374 h0 hk) (by rw [hsz]; exact ar375 hk) (by rw [hsz]; simp [Builtin.List.listTooLong, sizeLine]; exact ar376 hk)) ⟨hL, ?_⟩⟩)
  obtain ⟨R2, x2⟩ := R.allocZ (tk := s.toks) (fun b o e => Heap.get?_push_of_some { cls := .type "list", data := .seq (List.foldl (fun x1 x2 => x1 ++ x2) #[] (List.replicate (if items.isEmpty = true then 0 else k.toNat) items)) } e) (Nat.le_refl _) (Heap.get?_push_size _ rfl)
  refine ⟨_, _, σ, .lst (List.replicate k.toNat x), x2, .lst (Fz.put_self ..) ?_, R2, h⟩
  refine RelVs.mono x2 ?_
  rw [hne, foldl_rep]
  have := rl.rep k.toNat
  simpa using this

/-! ### methods -/
def WMeth (B : Base) (F : Frm) (T id : String) (args : List Expr) (pos : Pos) (a : AV) (Q : AV → St → Prop) (σ : St) : Prop :=
  ∀ A env Z φ fr s v, Rm F.ht A → EnvOk F env → RelV B Z φ v a → Rel B Z φ env σ fr s →
    s.TypeIs v T ∧ (∀ p, v = .ref p → ∃ ob, s.heap.get? p = some ob ∧ ob.dict = none) ∧ wpAny (model B.prog B.w) A (callWith pos (.builtin id) [v] (backTo pos (starEach args env)) []) (PostV B env Z φ fr Q) NoE s
theorem r_meth {o name apos args pos T id} (pa : PlainAttrs T) (slot : Slot T name id) (hty : typeOf (.builtin id) = pure (.type "method_descriptor")) (hbase : ∀ env, attributeBase o name env (eval o env) = eval o env)
    (hfew : ∀ env, ((backTo pos (starEach args env)).all (fun x => !x.1) && (backToKw pos (keywordEach [] env)).all (fun x => x.1.isSome)
      && decide (args.length + ([] : List Keyword).length + (if ([] : List Keyword).isEmpty then 0 else 1) < 30)) = true)
    (hline : (apos.endLine == pos.line) = true) (h : WE B F o (fun a σ1 => WMeth B F T id args pos a Q σ1) σ) : WE B F (.Call (.Attribute o name apos) args [] pos) Q σ := fun A env Z φ fr s hA hE R =>
  wpAny_Call_method (hbase env) (hfew env) hline pa slot hty (wpAny_mono (h A env Z φ fr s hA hE R) (fun v s1 ⟨Z1, φ1, σ1, a, x1, rv, R1, h1⟩ =>
    let ⟨p1, p2, p3⟩ := h1 A env Z1 φ1 fr s1 v hA hE rv R1
    ⟨p1, p2, wpAny_mono p3 (fun _ _ p => p.up x1) fun _ _ e => e⟩) fun _ _ e => e)

inductive LstAtI (B : Base) (Z : Fz) (φ : List Addr) (s : Shared) (v : Value) (l : List AV) (i : Nat) : Prop
  | mk : ∀ p items n, v = .ref p → φ[i]? = some p → IsL s.heap p items n → RelVs B Z φ items.toList l → LstAtI B Z φ s v l i
theorem Rel.lstAt (R : Rel B Z φ env σ fr s) {i : Nat} {l : List AV} {v} (h : σ.led[i]? = some (.list l)) (hv : RelV B Z φ v (.ref i)) : LstAtI B Z φ s v l i := by
  obtain ⟨_, rfl, hi⟩ := hv.ref_i
  obtain ⟨p, o, h1, h2, ⟨items, n, rfl, h4⟩, _⟩ := R.led (by simp) h
  obtain rfl := Option.some.inj (h1.symm.trans hi)
  exact ⟨_, items, n, rfl, hi, h2, h4⟩

inductive AppP (i : Nat) (Q : AV → St → Prop) (x : AV) (σ2 : St) : Prop
  | mk (l) : σ2.led[i]? = some (.list l) → l.length ≤ 1000000 → Q .none ⟨σ2.loc, σ2.led.set i (.list (l ++ [x]))⟩ → AppP i Q x σ2
inductive ExtP (i : Nat) (Q : AV → St → Prop) (x : AV) (σ2 : St) : Prop
  | mk (l m) : σ2.led[i]? = some (.list l) → LstOf σ2.led x m → x ≠ .ref i → l.length + m.length ≤ 1000000 → Q .none ⟨σ2.loc, σ2.led.set i (.list (l ++ m))⟩ → ExtP i Q x σ2
theorem m_append {e pos i l₀} (h0 : σ.led[i]? = some (.list l₀)) (hs : ∀ env, backTo pos (starEach [e] env) = [(false, eval e env)])
    (h : WE B F e (fun x σ2 => AppP i Q x σ2) σ) : WMeth B F "list" "list.append" [e] pos (.ref i) Q σ := fun A env Z φ fr s v hA hE hv R => by
  obtain ⟨p, items, n, rfl, hi, hL, rl⟩ := R.lstAt h0 hv
  refine ⟨⟨_, hL, rfl⟩, fun q hq => ?_, ?_⟩
  · cases hq; exact ⟨_, hL, rfl⟩
  rw [hs]
  refine P.append_list (wpAny_mono (h A env Z φ fr s hA hE R) (fun v s1 ⟨Z1, φ1, σ1, a, x1, rv, R1, l, hl, hz, h1⟩ => ?_) fun _ _ e => e)
  obtain ⟨p', items', n', hp, hi', hL', rl'⟩ := R1.lstAt hl (.ref (prefix_get x1.p hi))
  cases hp
  refine ⟨items', n', by rw [lsize rl', sizeLine_eq]; exact ar1 hz, hL', ?_⟩
  have R2 := R1.upd (tk := s1.toks) (mo' := .list (l ++ [a])) (by simp) (by simp) hl hi' (Heap.SameBut.update ..).extBut (hL'.update fun xs => xs.push v) ⟨_, _, rfl, by simpa using rl'.append (.cons rv .nil)⟩
  exact ⟨Z1, φ1, _, .none, x1, .none, R2, h1⟩

theorem m_extend {e pos i l₀} (h0 : σ.led[i]? = some (.list l₀)) (hs : ∀ env, backTo pos (starEach [e] env) = [(false, eval e env)])
    (h : WE B F e (fun x σ2 => ExtP i Q x σ2) σ) : WMeth B F "list" "list.extend" [e] pos (.ref i) Q σ :=
  fun A env Z φ fr s v hA hE hv R => by
  obtain ⟨p, items, n, rfl, hi, hL, rl⟩ := R.lstAt h0 hv
  refine ⟨⟨_, hL, rfl⟩, fun q hq => ?_, ?_⟩
  · cases hq; exact ⟨_, hL, rfl⟩
  rw [hs]
  refine P.extend_list (wpAny_mono (h A env Z φ fr s hA hE R) (fun v s1 ⟨Z1, φ1, σ1, a, x1, rv, R1, l, m, hl, hm, hne, hz, h1⟩ => ?_) fun _ _ e => e)
  obtain ⟨p', items', n', hp, hi', hL', rl'⟩ := R1.lstAt hl (.ref (prefix_get x1.p hi))
  cases hp
  obtain ⟨b, items2, n2, rfl, hL2, rl2⟩ := R1.lst hm rv
  have e1 := lsize rl'
  have e2 := lsize rl2
  refine ⟨b, items', items2, n', n2, by rw [e1, sizeLine_eq]; exact ar377 hz, by rw [e1, e2, sizeLine_eq]; exact ar378 hz, ?_, rfl, hL', hL2, ?_⟩
  · simp [Builtin.List.listTooLong, sizeLine, e1, e2]; lia
  have R2 := R1.upd (tk := s1.toks) (mo' := .list (l ++ m)) (by simp) (by simp) hl hi' (Heap.SameBut.update ..).extBut (hL'.update fun xs => xs ++ items2) ⟨_, _, rfl, by simpa using rl'.append rl2⟩
  exact ⟨Z1, φ1, _, .none, x1, .none, R2, h1⟩

theorem m_pop {pos i l x} (h0 : σ.led[i]? = some (.list (l ++ [x]))) (hz : l.length ≤ 1000000) (h : Q x ⟨σ.loc, σ.led.set i (.list l)⟩) : WMeth B F "list" "list.pop" [] pos (.ref i) Q σ := fun A env Z φ fr s v hA hE hv R => by
  obtain ⟨p, items, n, rfl, hi, hL, rl⟩ := R.lstAt h0 hv
  refine ⟨⟨_, hL, rfl⟩, fun q hq => ?_, ?_⟩
  · cases hq; exact ⟨_, hL, rfl⟩
  have e1 : items.size = l.length + 1 := by rw [lsize rl]; simp
  have hx : (l ++ [x])[l.length]? = some x := by simp
  obtain ⟨y, q1, q2⟩ := rl.get hx
  refine P.pop_list hL (y := y) (by rw [e1, ← Array.getElem?_toList]; exact q1) ?_ (by rw [e1, sizeLine_eq]; exact ar379 hz)
  have e2 : (items.eraseIdxIfInBounds (items.size - 1)).toList = items.toList.take l.length := by
    have hlt : items.size - 1 < items.size := ar380 e1
    rw [Array.eraseIdxIfInBounds, dif_pos hlt, Array.toList_eraseIdx, List.eraseIdx_eq_take_drop_succ]
    have : items.toList.drop (items.size - 1 + 1) = [] := by rw [List.drop_eq_nil_iff]; simp; exact ar381
    rw [this, e1]; simp
  have R2 := R.upd (tk := s.toks) (mo' := .list l) (by simp) (by simp) h0 hi (Heap.SameBut.update ..).extBut (hL.update fun xs => xs.eraseIdxIfInBounds (items.size - 1)) ⟨_, _, rfl, by rw [e2]; simpa using rl.take l.length⟩
  exact ⟨Z, φ, _, x, .refl _ _, q2, R2, h⟩

end Mine
end
section
open PySem PySem.W PyProof.Rows
set_option Elab.async false
set_option linter.unusedVariables false
set_option maxRecDepth 100000
namespace Mine
variable {B : Base} {Z Z' : Fz} {φ φ' : List Addr} {F : Frm} {σ : St} {Q : AV → St → Prop} {env : Env} {fr : List Ent} {s : Shared}

/-! ### insert -/
theorem insert_list (items : Array Value) (y : Value) (x : Int) (h0 : 0 ≤ x) (hj : x.toNat ≤ items.size) :
    ((fun xs : Array Value => have k := if x < 0 then (x + (xs.size : Int)).toNat else min x.toNat xs.size; (xs.extract 0 k).push y ++ xs.extract k) items).toList = items.toList.take x.toNat ++ y :: items.toList.drop x.toNat := by
  have n0 : ¬ (x < 0) := ar72 h0
  have mn : min x.toNat items.size = x.toNat := ar252 hj
  simp only [n0, if_false, mn]
  simp [List.take_of_length_le]
inductive InsP (i : Nat) (Q : AV → St → Prop) (k y : AV) (σ2 : St) : Prop
  | mk (l x) : k = .int x → 0 ≤ x → σ2.led[i]? = some (.list l) → x.toNat ≤ l.length → l.length ≤ 1000000 → Q .none ⟨σ2.loc, σ2.led.set i (.list (l.take x.toNat ++ y :: l.drop x.toNat))⟩ → InsP i Q k y σ2
theorem m_insert {e1 e2 pos i l₀} (h0 : σ.led[i]? = some (.list l₀)) (hs : ∀ env, backTo pos (starEach [e1, e2] env) = [(false, eval e1 env), (false, eval e2 env)])
    (h : WE B F e1 (fun k σ1 => WE B F e2 (fun y σ2 => InsP i Q k y σ2) σ1) σ) :
    WMeth B F "list" "list.insert" [e1, e2] pos (.ref i) Q σ := fun A env Z φ fr s v hA hE hv R => by
  obtain ⟨p, items, n, rfl, hi, hL, rl⟩ := R.lstAt h0 hv
  refine ⟨⟨_, hL, rfl⟩, fun q hq => ?_, ?_⟩
  · cases hq; exact ⟨_, hL, rfl⟩
  rw [hs]
  refine method_meets PySem.F.slot_list_insert PySem.F.entry_list_insert rfl (Calls.evalArgs_plain (Calls.spliced_cons (wpAny_mono (h A env Z φ fr s hA hE R) (fun u s1 ⟨Z1, φ1, σ1, k, x1, ru, R1, h1⟩ =>
    Calls.spliced_cons (wpAny_mono (h1 A env Z1 φ1 fr s1 hA hE R1) (fun y s2 ⟨Z2, φ2, σ2, y', x2, ry, R2, l, x, hk, hx, hl, hj, hz, h2⟩ => Calls.spliced_nil ?_) fun _ _ e => e)) fun _ _ e => e)))
  subst hk
  obtain ⟨t, rfl⟩ := ru.int_i
  obtain ⟨p', items', n', hp, hi', hL', rl'⟩ := R2.lstAt hl (.ref (prefix_get (x1.trans x2).p hi))
  cases hp
  have e1 := lsize rl'
  have hfit : ¬(!Builtin.List.listFitsIndex x) = true := by rw [fitsIndex_of hx (ar253 hj hz)]; simp
  have hsz : items'.size ≤ sizeLine := by rw [e1, sizeLine_eq]; exact ar1 hz
  have e2 := insert_list items' y x hx (by rw [e1]; exact hj)
  have R3 := R2.upd (tk := s2.toks) (mo' := .list (l.take x.toNat ++ y' :: l.drop x.toNat)) (by simp) (by simp) hl hi' (Heap.SameBut.update ..).extBut (hL'.update fun xs => have k := if x < 0 then (x + (xs.size : Int)).toNat else min x.toNat xs.size; (xs.extract 0 k).push y ++ xs.extract k)
    ⟨_, _, rfl, by rw [e2]; exact (rl'.take _).append (.cons ry (rl'.drop _))⟩
  exact ⟨rfl, ⟨_, hL', rfl⟩, PySem.F.args_list_insert_3 _ _ _, _, AutoSeq1.list_insert_list_int_val_1 p items' n' x t y hfit hsz, hL', ⟨Z2, φ2, _, .none, x1.trans x2, .none, R3, h2⟩⟩

/-! ### xs[k] = v -/
def WSet (B : Base) (F : Frm) (a i x : AV) (Qn : St → Prop) (σ : St) : Prop :=
  ∀ A env Z φ fr s v u y, Rm F.ht A → EnvOk F env → RelV B Z φ v a → RelV B Z φ u i → RelV B Z φ y x → Rel B Z φ env σ fr s →
    wpAny (model B.prog B.w) A (setItem v u y) (fun _ s' => PostN B env Z φ fr Qn s') NoE s
theorem s_setitem {o i pos' e pos Qn Qr} (h : WE B F e (fun x σ1 => WE B F o (fun a σ2 => WE B F i (fun k σ3 => WSet B F a k x Qn σ3) σ2) σ1) σ) (hs : ∀ env, swapsWith e (some (.Subscript o i pos')) pos.line env = pure false) :
    WS B F (.Assign [.Subscript o i pos'] e pos) Qn Qr σ := fun A env Z φ fr s hA hE R =>
  wpAny_Assign_Subscript (wpAny_mono (h A env Z φ fr s hA hE R) (fun y s1 ⟨Z1, φ1, σ1, x, x1, ry, R1, h1⟩ => wpAny_mono (h1 A env Z1 φ1 fr s1 hA hE R1) (fun v s2 ⟨Z2, φ2, σ2, a, x2, rv, R2, h2⟩ =>
    wpAny_mono (h2 A env Z2 φ2 fr s2 hA hE R2) (fun u s3 ⟨Z3, φ3, σ3, k, x3, ru, R3, h3⟩ => wpAny_mono (h3 A env Z3 φ3 fr s3 v u y hA hE (rv.mono x3) ru (ry.mono (x2.trans x3)) R3)
      (fun _ s4 ⟨Z4, φ4, σ4, x4, R4, h4⟩ => ⟨Z4, φ4, σ4, (x1.trans x2).trans (x3.trans x4), R4, h4⟩) fun _ _ e => e) fun _ _ e => e) fun _ _ e => e) fun _ _ e => e) (hs env)
theorem setItem_exact {prog : Program} {w : World} {A : Around} {l : Addr} {items : Array Value} {n : Nat} {k : Int} {t : Tok} {v : Value} {Q : Unit → Shared → Prop} {E : Value → Shared → Prop} (hl : IsL s.heap l items n) (h0 : 0 ≤ k) (hfit : k < 2 ^ 63) (hk : k.toNat < items.size)
    (hQ : Q () { s with heap := s.heap.update l (Obj.mapSeq (·.setIfInBounds k.toNat v)) }) : wpAny (model prog w) A (setItem (.ref l) (.int k t) v) Q E s := by
  have hT := hl.isList.typeIs (s := s)
  have hf := fitsIndex_of h0 hfit
  clear hfit
  unfold setItem
  try with_reducible refine wpAny_holding ?_
  first | refine wpAny_bind (wpAny_pure ?_) | skip
  refine wpAny_bind (wpAny_sequenceKey hT (by rfl) (wpAny_bind (wpAny_callSpecial?_slot (name := Str.ofString "__setitem__") hT slot_list_setitem
    (wpAny_call_entry slot_list_setitem hT entry_list_setitem ?_ (args_list_setitem _ _ _)))))
  show wpAny _ _ (Builtin.List.listSubscript? (.int k t) >>= _) _ _ s
  refine wpAny_bind (wpAny_listSubscript_int hf ?_)
  obtain ⟨j, rfl⟩ := Int.eq_ofNat_of_zero_le h0
  show wpAny _ _ ((seqItemAt l j >>= fun r => pure (r.map (j, ·))) >>= _) _ _ s
  refine wpAny_bind (wpAny_bind (wpAny_seqItemAt hl rfl (wpAny_pure ?_)))
  rw [show items[j]? = some items[j] from Array.getElem?_eq_getElem hk]
  show wpAny _ _ (setSeqItemAt l j v >>= _) _ _ s
  refine wpAny_bind (wpAny_setSeqItemAt hl rfl ?_)
  first
    | exact wpAny_bind (wpAny_pure (wpAny_pure ⟨.none, rfl, wpAny_pure hQ⟩))
    | exact wpAny_pure ⟨.none, rfl, wpAny_pure hQ⟩
theorem set_list {i l x} {k : Int} {Qn : St → Prop} (hl : σ.led[i]? = some (.list l)) (h0 : 0 ≤ k) (hk : k.toNat < l.length) (hz : l.length ≤ 1000000) (h : Qn ⟨σ.loc, σ.led.set i (.list (l.set k.toNat x))⟩) : WSet B F (.ref i) (.int k) x Qn σ :=
  fun A env Z φ fr s v u y hA hE hv hu hy R => by
  obtain ⟨p, items, n, rfl, hi, hL, rl⟩ := R.lstAt hl hv
  obtain ⟨_, rfl⟩ := hu.int_i
  have e1 := lsize rl
  refine setItem_exact hL h0 (ar254 hk hz) (ar255 hk e1) ?_
  have R2 := R.upd (tk := s.toks) (mo' := .list (l.set k.toNat x)) (by simp) (by simp) hl hi (Heap.SameBut.update ..).extBut (hL.update fun xs => xs.setIfInBounds k.toNat y) ⟨_, _, rfl, by simpa using rl.set k.toNat hy⟩
  exact ⟨Z, φ, _, .refl _ _, R2, h⟩

/-! ### dicts of ints -/
def dget : List (Int × AV) → Int → Option AV
  | [], _ => none
  | (k, v) :: r, x => if k = x then some v else dget r x
def dset : List (Int × AV) → Int → AV → List (Int × AV)
  | [], x, v => [(x, v)]
  | (k, u) :: r, x, v => if k = x then (k, v) :: r else (k, u) :: dset r x v
theorem RelKV.len {a b} (h : RelKV B Z φ a b) : a.length = b.length := by
  induction h with
  | nil => rfl
  | cons _ _ ih => simp [ih]
theorem RelKV.get {a b} (h : RelKV B Z φ a b) (k : Int) : (valueAt a k = none ∧ dget b k = none) ∨ ∃ v x, valueAt a k = some v ∧ dget b k = some x ∧ RelV B Z φ v x := by
  induction h with
  | nil => exact .inl ⟨rfl, rfl⟩
  | @cons j v x vs as h _ ih =>
    unfold valueAt dget
    by_cases e : j = k
    · simp [e]; exact h
    · simpa [e, valueAt] using ih
theorem RelKV.keys {a b} (h : RelKV B Z φ a b) : a.map (·.1) = b.map (·.1) := by
  induction h with
  | nil => rfl
  | cons _ _ ih => simp [ih]
theorem stored_cons (j : Int) (u : Value) (r : List (Int × Value)) (k : Int) (v : Value) (hn : ((j, u) :: r).map (·.1) |>.Nodup) : stored ((j, u) :: r) k v = if j = k then (j, v) :: r else (j, u) :: stored r k v := by
  unfold stored
  by_cases e : j = k
  · subst e
    simp only [List.any_cons, decide_true, Bool.true_or, if_true, List.map_cons]
    simp only [List.map_cons, List.nodup_cons] at hn
    congr 1
    refine (List.map_congr_left fun p hp => ?_).trans (List.map_id _)
    have : p.1 ≠ j := fun q => hn.1 (q ▸ List.mem_map_of_mem hp)
    simp [this]
  · simp only [List.any_cons, e, decide_false, Bool.false_or, if_false, List.map_cons]
    split <;> simp
theorem RelKV.set {a b} (h : RelKV B Z φ a b) (hn : (a.map (·.1)).Nodup) (k : Int) {v x} (hv : RelV B Z φ v x) : RelKV B Z φ (stored a k v) (dset b k x) := by
  induction h with
  | nil => exact .cons hv .nil
  | @cons j u y vs as h h2 ih =>
    rw [stored_cons _ _ _ _ _ hn]
    unfold dset
    by_cases e : j = k
    · simp only [e, if_true]; exact .cons hv h2
    · simp only [e, if_false]; exact .cons h (ih (List.nodup_cons.mp hn).2)

theorem Rel.dictAt (R : Rel B Z φ env σ fr s) {i : Nat} {d : List (Int × AV)} {v} (h : σ.led[i]? = some (.dict d)) (hv : RelV B Z φ v (.ref i)) :
    ∃ p kvs, v = .ref p ∧ φ[i]? = some p ∧ s.heap.DictOf (intKind B.prog B.w) p kvs ∧ RelKV B Z φ kvs d ∧ (p == sysModules) = false := by
  obtain ⟨_, rfl, hi⟩ := hv.ref_i
  obtain ⟨p, o, q1, q2, ⟨kvs, q3, q4⟩, hm⟩ := R.led (by simp) h
  obtain rfl := Option.some.inj (q1.symm.trans hi)
  refine ⟨_, kvs, rfl, hi, Heap.dictOf_iff.mpr ⟨o, q2, q3⟩, q4, ?_⟩
  have := R.inv.hi _ hm
  have lo := B.lo
  rw [beq_eq_false_iff_ne]; rintro rfl; exact absurd lo (Nat.not_lt.mpr this)

theorem ix_dict {i d x} {k : Int} (h1 : σ.led[i]? = some (.dict d)) (hx : dget d k = some x) (h : Q x σ) : WIx B F (.ref i) (.int k) Q σ := fun A env Z φ fr s v u hA hE hv hu R => by
  obtain ⟨p, kvs, rfl, hi, hd, hr, hs⟩ := R.dictAt h1 hv
  obtain ⟨t, rfl⟩ := hu.int_i
  rcases hr.get k with ⟨_, q⟩ | ⟨v, y, q1, q2, q3⟩
  · rw [hx] at q; cases q
  · rw [hx] at q2; cases q2
    exact ⟨"dict", _, hd.mapOf.typeIs, slot_dict_getitem.lookup, wpAny_getItem_of (intKind_is _ _ _ _) hd.mapOf q1 (postV q3 R.toks h)⟩
theorem set_dict {i d x} {k : Int} {Qn : St → Prop} (h1 : σ.led[i]? = some (.dict d)) (hz : d.length ≤ 1000000) (h : Qn ⟨σ.loc, σ.led.set i (.dict (dset d k x))⟩) : WSet B F (.ref i) (.int k) x Qn σ :=
  fun A env Z φ fr s v u y hA hE hv hu hy R => by
  obtain ⟨p, kvs, rfl, hi, hd, hr, hs⟩ := R.dictAt h1 hv
  obtain ⟨t, rfl⟩ := hu.int_i
  refine wpAny_setItem_pairs (intKind_is _ _ _ _) hd (fun h' hd' hs' => ?_) (by rw [hr.len, sizeLine_eq]; exact ar1 hz)
  obtain ⟨o', ho', q'⟩ := Heap.dictOf_iff.mp hd'
  obtain ⟨o, es, ep, _, _, _, _, _, nd⟩ := hd
  have R2 := R.upd (tk := s.toks + 1) (mo' := .dict (dset d k x)) (by simp) (by simp) h1 hi hs'.extBut ho' ⟨_, q', hr.set nd k hy⟩
  exact ⟨Z, φ, _, .refl _ _, R2, h⟩
theorem c_notin {i d} {k : Int} (h1 : σ.led[i]? = some (.dict d)) (h : Q (.bool (!(dget d k).isSome)) σ) : W2 B F (compareOp .NotIn) (.int k) (.ref i) Q σ := fun A env Z φ fr s v u hA hE hv hu R => by
  obtain ⟨p, kvs, rfl, hi, hd, hr, hs⟩ := R.dictAt h1 hu
  obtain ⟨t, rfl⟩ := hv.int_i
  refine wpAny_notIn_of (intKind_is _ _ _ _) hs hd.mapOf ?_
  rcases hr.get k with ⟨q1, q2⟩ | ⟨v, y, q1, q2, q3⟩
  · rw [q1]; rw [q2] at h; exact postV (.bool _) R.toks h
  · rw [q1]; rw [q2] at h; exact postV (.bool _) R.toks h
inductive Get2P (i : Nat) (Q : AV → St → Prop) (j x : AV) (σ2 : St) : Prop
  | mk (k d) : j = .int k → σ2.led[i]? = some (.dict d) → Q ((dget d k).getD x) σ2 → Get2P i Q j x σ2
theorem m_get2 {e1 e2 pos i d₀} (h0 : σ.led[i]? = some (.dict d₀)) (hs : ∀ env, backTo pos (starEach [e1, e2] env) = [(false, eval e1 env), (false, eval e2 env)])
    (h : WE B F e1 (fun j σ1 => WE B F e2 (fun x σ2 => Get2P i Q j x σ2) σ1) σ) :
    WMeth B F "dict" "dict.get" [e1, e2] pos (.ref i) Q σ := fun A env Z φ fr s v hA hE hv R => by
  obtain ⟨p, kvs, rfl, hi, hd, hr, hsm⟩ := R.dictAt h0 hv
  refine ⟨hd.mapOf.typeIs, fun q hq => ?_, ?_⟩
  · cases hq; obtain ⟨o, es, ep, ho, hx, _⟩ := hd; exact ⟨o, ho, hx.2.1⟩
  rw [hs]
  refine wpAny_dict_get2 (knd := intKind B.prog B.w) hsm (wpAny_mono (h A env Z φ fr s hA hE R) (fun u s1 ⟨Z1, φ1, σ1, j, x1, ru, R1, h1⟩ =>
    wpAny_mono (h1 A env Z1 φ1 fr s1 hA hE R1) (fun y s2 ⟨Z2, φ2, σ2, x, x2, ry, R2, k, d, hk, hl, h2⟩ => ?_) fun _ _ e => e) fun _ _ e => e)
  subst hk
  obtain ⟨t, rfl⟩ := ru.int_i
  obtain ⟨p', kvs', hp, hi', hd', hr', _⟩ := R2.dictAt hl (.ref (prefix_get (x1.trans x2).p hi))
  cases hp
  refine ⟨k, valueAt kvs', intKind_is _ _ _ _, hd'.mapOf, ?_⟩
  rcases hr'.get k with ⟨q1, q2⟩ | ⟨v, z, q1, q2, q3⟩
  · rw [q1]; rw [q2] at h2; exact ⟨Z2, φ2, σ2, x, x1.trans x2, ry, R2.toks, h2⟩
  · rw [q1]; rw [q2] at h2; exact ⟨Z2, φ2, σ2, z, x1.trans x2, q3, R2.toks, h2⟩
theorem r_dict0 {pos} (h : Q (.ref σ.led.length) ⟨σ.loc, σ.led ++ [.dict []]⟩) : WE B F (.Dict [] [] pos) Q σ := fun A env Z φ fr s hA hE R => by
  refine wpAny_Dict_empty ?_
  have R2 := R.alloc (tk := s.toks) (mo := .dict []) (by simp) (fun b o e => Heap.get?_push_of_some { cls := .type "dict", data := .dict #[] } e) (Nat.le_refl _) (Heap.get?_push_size _ rfl)
    ⟨[], ⟨#[], 0, ⟨rfl, rfl, rfl⟩, rfl, fun e he => by simp at he, .nil, by constructor⟩, .nil⟩
  exact ⟨Z, _, _, .ref σ.led.length, ⟨.refl _, List.prefix_append _ _⟩, .ref (by rw [← R.len]; simp), R2, h⟩

/-! ### truth of lists -/
theorem t_list {a l} {Q : Bool → St → Prop} (h1 : LstOf σ.led a l) (hz : l.length ≤ 1000000) (h : Q (!l.isEmpty) σ) : WTr B F a Q σ := fun A env Z φ fr s v hA hE hv R => by
  obtain ⟨p, items, n, rfl, hL, rl⟩ := R.lst h1 hv
  have e1 := lsize rl
  have e2 : items.isEmpty = l.isEmpty := by
    unfold Array.isEmpty
    cases l with
    | nil => simp at e1; simp [e1]
    | cons => simp at e1; simp [e1]
  refine wpAny_truthy_list hL.isList (ar73 hz e1) ?_
  rw [e2]; exact postB R.toks h

end Mine
end
section
open PySem PySem.W PyProof.Rows
set_option Elab.async false
set_option linter.unusedVariables false
set_option maxRecDepth 100000
namespace Mine
variable {B : Base} {Z Z' : Fz} {φ φ' ψ : List Addr} {F : Frm} {σ : St} {Q : AV → St → Prop} {env : Env} {fr : List Ent} {s : Shared}

/-! ### plain data: no place of the ledger in it -/
mutual
def nr : AV → Bool
  | .ref _ => false
  | .tup l => nrs l
  | .lst l => nrs l
  | .dct _ l => nrs l
  | .iset _ => true
  | .none | .bool _ | .int _ | .str _ | .rng _ | .bi _ | .ty _ | .fn _ | .lam .. => true
def nrs : List AV → Bool
  | [] => true
  | a :: r => nr a && nrs r
end
theorem and_true {a b : Bool} (h : (a && b) = true) : a = true ∧ b = true := (Bool.and_eq_true _ _).mp h
theorem nrs_iff : ∀ {l : List AV}, nrs l = true ↔ ∀ a ∈ l, nr a = true
  | [] => by decide +kernel
  | a :: r => by simp [nrs, nrs_iff (l := r)]
theorem nrs_map {α : Type} {f : α → AV} (h : ∀ x, nr (f x) = true) (l : List α) : nrs (l.map f) = true := nrs_iff.mpr fun a ha => by
  obtain ⟨x, _, rfl⟩ := List.mem_map.mp ha; exact h x
theorem nrs_append {l m : List AV} : nrs (l ++ m) = (nrs l && nrs m) := by
  induction l with
  | nil => rfl
  | cons a r ih => simp [nrs, ih, Bool.and_assoc]
def nrM : MO → Bool
  | .gone => true
  | .list l => nrs l
  | .dict d => d.all fun p => nr p.2

theorem RelV.any {v : Value} {a : AV} (h : RelV B Z φ v a) : nr a = true → RelV B Z ψ v a :=
  RelV.rec (motive_1 := fun v a _ => nr a = true → RelV B Z ψ v a) (motive_2 := fun vs as _ => nrs as = true → RelVs B Z ψ vs as)
    (fun _ => .none) (fun b _ => .bool b) (fun i t _ => .int i t) (fun s t _ => .str s t) (fun h1 h2 h3 _ ih h => .tup h1 h2 h3 (ih h)) (fun h1 _ ih h => .lst h1 (ih h)) (fun _ h => (Bool.false_ne_true h).elim) (fun h _ => .rng h)
    (fun h1 h2 h3 h4 _ ih h => .dct h1 h2 h3 h4 (ih h)) (fun h1 h2 _ => .iset h1 h2) (fun x _ => .bi x) (fun x _ => .ty x) (fun h _ => .fn h) (fun h1 h2 h3 _ => .lam h1 h2 h3)
    (fun _ => .nil) (fun _ _ i1 i2 h => .cons (i1 (and_true h).1) (i2 (and_true h).2)) h
theorem RelVs.any {v : List Value} {a : List AV} (h : RelVs B Z φ v a) (g : nrs a = true) : RelVs B Z ψ v a := h.imp fun _ _ ha h => h.any (nrs_iff.mp g _ ha)
theorem RelKV.any {a b} (h : RelKV B Z φ a b) (hn : (b.all fun p => nr p.2) = true) : RelKV B Z ψ a b := by
  induction h with
  | nil => exact .nil
  | cons h _ ih => simp only [List.all_cons, Bool.and_eq_true] at hn; exact .cons (h.any hn.1) (ih hn.2)
theorem MOP.any {mo o} (h : MOP B Z φ mo o) (hn : nrM mo = true) : MOP B Z ψ mo o := by
  cases mo with
  | gone => trivial
  | list l => obtain ⟨i, n, a, b⟩ := h; exact ⟨i, n, a, b.any hn⟩
  | dict l => obtain ⟨i, a, b⟩ := h; exact ⟨i, a, b.any hn⟩

/-- refs below k, or plain -/
def low (k : Nat) : AV → Bool
  | .ref i => decide (i < k)
  | a => nr a
theorem RelV.take {v a} {k : Nat} (h : RelV B Z φ v a) (hl : low k a = true) : RelV B Z (φ.take k) v a := by
  cases a with
  | ref i =>
    replace h := h.ref_i; obtain ⟨_, rfl, h⟩ := h
    exact .ref (by rw [List.getElem?_take_of_lt (by simpa [low] using hl)]; exact h)
  | _ => exact h.any hl

/-! ### weakening of a state -/
/-- names and ledger that are left: fewer names, fewer objects -/
structure Cut (σ σ' : St) : Prop where
  le : σ'.led.length ≤ σ.led.length
  led : ∀ (i : Nat) mo, σ'.led[i]? = some mo → (σ.led[i]? = some mo ∧ nrM mo = true) ∨ mo = .gone
  loc : ∀ x av, get σ'.loc x = some av → get σ.loc x = some av ∧ low σ'.led.length av = true

/-- entries weaken and are left out -/
inductive SW : List Ent → List Ent → Prop
  | nil : SW [] []
  | cons {a p p' E E'} : (∀ o, p o → p' o) → SW E E' → SW ((a, p) :: E) ((a, p') :: E')
  | skip {q E E'} : SW E E' → SW (q :: E) E'
theorem SW.of_weak {E E' : List Ent} (h : Weak E E') : SW E E' := by
  induction h with
  | nil => exact .nil
  | cons h _ ih => exact .cons h ih
theorem SW.append {E1 E1' E2 E2' : List Ent} (h : SW E1 E1') (g : SW E2 E2') : SW (E1 ++ E2) (E1' ++ E2') := by
  induction h with
  | nil => exact g
  | cons h _ ih => exact .cons h ih
  | skip _ ih => exact .skip ih
theorem SW.to_nil : ∀ E : List Ent, SW E []
  | [] => .nil
  | _ :: E => .skip (SW.to_nil E)
theorem SW.split {E E' : List Ent} (h : SW E E') : ∃ E0, E0.Sublist E ∧ Weak E0 E' := by
  induction h with
  | nil => exact ⟨[], .slnil, .nil⟩
  | cons h _ ih => obtain ⟨E0, a, b⟩ := ih; exact ⟨_, .cons_cons _ a, .cons h b⟩
  | skip _ ih => obtain ⟨E0, a, b⟩ := ih; exact ⟨E0, .cons _ a, b⟩
theorem Inv.sw {E E' : List Ent} (I : Inv B Z E s) (h : SW E E') : Inv B Z E' s := by
  obtain ⟨E0, a, b⟩ := h.split
  exact (I.drop a).weak b

theorem sw_cut : ∀ {χ : List Addr} {led led' : List MO}, led'.length ≤ led.length → (∀ (i : Nat) mo, led'[i]? = some mo → (led[i]? = some mo ∧ nrM mo = true) ∨ mo = .gone) →
    SW ((χ.zip led).flatMap fun p => entM B Z φ p.1 p.2) (((χ.take led'.length).zip led').flatMap fun p => entM B Z ψ p.1 p.2)
  | _, _, [], _, _ => by simp; exact SW.to_nil _
  | [], _, _ :: _, _, _ => by simp; exact .nil
  | a :: χ, [], _ :: _, h, _ => by simp at h
  | a :: χ, m :: led, m' :: led', h, g => by
    simp only [List.length_cons, List.take_succ_cons, List.zip_cons_cons, List.flatMap_cons]
    refine SW.append ?_ (sw_cut (by exact Nat.le_of_lt_succ ‹_›) fun i mo e => by simpa using g (i + 1) mo (by simpa using e))
    rcases g 0 m' (by simp) with ⟨e, n⟩ | e
    · simp at e; subst e
      cases m with
      | gone => exact .nil
      | list l => exact .cons (fun o q => q.any n) .nil
      | dict l => exact .cons (fun o q => q.any n) .nil
    · subst e; exact SW.to_nil _

theorem sw_frame {loc loc' : List (Str × AV)} {k : Nat} (h : ∀ x av, get loc' x = some av → get loc x = some av ∧ low k av = true) : SW (frameE B Z φ env loc) (frameE B Z (φ.take k) env loc') := by
  refine .cons (fun o ⟨es, ep, q1, q2, q3⟩ => ⟨es, ep, q1, q2, fun x av h1 h2 => ?_⟩) ?_
  · obtain ⟨e1, e2⟩ := h x av h2
    obtain ⟨v, e3, e4⟩ := q3 x av h1 e1
    exact ⟨v, e3, e4.take e2⟩
  · generalize env.cells = cs
    induction cs with
    | nil => exact .nil
    | cons d r ih =>
      refine .cons (fun o ⟨v, q1, q2⟩ => ⟨v, q1, fun av h2 => ?_⟩) ih
      obtain ⟨e1, e2⟩ := h _ av h2
      obtain ⟨v', e3, e4⟩ := q2 av e1
      exact ⟨v', e3, e4.take e2⟩

theorem Rel.cut (R : Rel B Z φ env σ fr s) {σ' : St} (c : Cut σ σ') : Rel B Z (φ.take σ'.led.length) env σ' fr s :=
  ⟨R.inv.sw ((sw_frame c.loc).append ((sw_cut c.le c.led).append (SW.of_weak (Weak.refl fr)))), by rw [List.length_take]; have := c.le; have := R.len; exact ar100 (by assumption) this⟩

/-- a list of the ledger freezes -/
def sb1 (i : Nat) (l : List AV) : AV → AV
  | .ref j => if j = i then .lst l else .ref j
  | a => a
def sb (i : Nat) (l : List AV) : AV → AV
  | .tup xs => .tup (xs.map (sb1 i l))
  | a => sb1 i l a
theorem RelV.sb1 {i : Nat} {l p o items n} (hi : φ[i]? = some p) (hz : Z p = Option.none) (ho : o = ({ cls := .type "list", data := .seq items n } : Obj)) (rl : RelVs B Z φ items.toList l) {v a} (h : RelV B Z φ v a) :
    RelV B (Z.put p o) φ v (Mine.sb1 i l a) := by
  have x : Ext Z φ (Z.put p o) φ := ⟨Fz.le.put hz, List.prefix_refl _⟩
  cases a with
  | ref j =>
    replace h := h.ref_i; obtain ⟨_, rfl, h⟩ := h
    show RelV B (Z.put p o) φ _ (if j = i then .lst l else .ref j)
    by_cases e : j = i
    · subst e
      rw [if_pos rfl]
      obtain rfl := Option.some.inj (h.symm.trans hi)
      exact .lst ((Fz.put_self ..).trans (congrArg some ho)) (rl.mono x)
    · rw [if_neg e]; exact .ref h
  | _ => exact h.mono x
theorem RelVs.sb1 {i : Nat} {l p o items n} (hi : φ[i]? = some p) (hz : Z p = Option.none) (ho : o = ({ cls := .type "list", data := .seq items n } : Obj)) (rl : RelVs B Z φ items.toList l) {as} : ∀ {vs}, RelVs B Z φ vs as →
    RelVs B (Z.put p o) φ vs (as.map (Mine.sb1 i l)) := by
  induction as with
  | nil => intro vs h; obtain rfl := h.nil_i; exact .nil
  | cons a as ih => intro vs h; obtain ⟨v, vs', rfl, h1, h2⟩ := h.cons_i; exact .cons (h1.sb1 hi hz ho rl) (ih h2)
theorem RelV.sb {i : Nat} {l p o items n} (hi : φ[i]? = some p) (hz : Z p = Option.none) (ho : o = ({ cls := .type "list", data := .seq items n } : Obj)) (rl : RelVs B Z φ items.toList l) {v a} (h : RelV B Z φ v a) :
    RelV B (Z.put p o) φ v (Mine.sb i l a) := by
  have x : Ext Z φ (Z.put p o) φ := ⟨Fz.le.put hz, List.prefix_refl _⟩
  cases a with
  | tup xs =>
    obtain ⟨_, _, _, _, rfl, h1, h2, h3, h4⟩ := h.tup_i
    exact .tup (x.z _ _ h1) h2 h3 (RelVs.sb1 hi hz ho rl h4)
  | _ => exact h.sb1 hi hz ho rl

/-- a list freezes: its entry is gone -/
theorem inv_freeze {E1 E2 : List Ent} {led : List MO} {i : Nat} {l : List AV} (I : Inv B Z (E1 ++ (ledE B Z φ led ++ E2)) s) (hl : φ.length = led.length) (h : led[i]? = some (.list l)) :
    ∃ p o items n, φ[i]? = some p ∧ Z p = Option.none ∧ o = ({ cls := .type "list", data := .seq items n } : Obj) ∧ RelVs B Z φ items.toList l ∧ Inv B (Z.put p o) (E1 ++ (ledE B Z φ (led.set i .gone) ++ E2)) s := by
  obtain ⟨a, φ1, φ2, l1, l2, h1, h2, h3, h4, h5⟩ := zip_split hl h
  have e : led.set i .gone = l1 ++ .gone :: l2 := by rw [h3, ← h5, set_mid]
  have s1 := led_split (B := B) (Z := Z) (φ := φ) (χ := φ) (φ1 := φ1) (φ2 := φ2) (a := a) (m := .list l) (l1 := l1) (l2 := l2) h4
  have s2 := led_split (B := B) (Z := Z) (φ := φ) (χ := φ) (φ1 := φ1) (φ2 := φ2) (a := a) (m := .gone) (l1 := l1) (l2 := l2) h4
  rw [← h2] at s1 s2
  unfold ledE at I ⊢
  rw [h3, s1] at I
  rw [e, s2]
  have P : (E1 ++ (((φ1.zip l1).flatMap fun p => entM B Z φ p.1 p.2) ++ (entM B Z φ a (.list l) ++ ((φ2.zip l2).flatMap fun p => entM B Z φ p.1 p.2)) ++ E2)).Perm
      ((a, MOP B Z φ (.list l)) :: (E1 ++ (((φ1.zip l1).flatMap fun p => entM B Z φ p.1 p.2) ++ (entM B Z φ a .gone ++ ((φ2.zip l2).flatMap fun p => entM B Z φ p.1 p.2)) ++ E2))) := by
    simp only [entM, List.nil_append, List.singleton_append, List.append_assoc, List.cons_append]
    refine (List.Perm.append_left _ List.perm_middle).trans List.perm_middle
  have J := I.perm P
  obtain ⟨o, ho, items, n, q1, q2⟩ := J.ent _ List.mem_cons_self
  exact ⟨a, o, items, n, h1, J.dj _ List.mem_cons_self, q1, q2, J.freeze ho⟩

/-- in a state: names that hold the list hold the frozen one -/
theorem Rel.frz (R : Rel B Z φ env σ fr s) {i : Nat} {l : List AV} {loc'} (h : σ.led[i]? = some (.list l)) (hloc : ∀ x av, get loc' x = some av → ∃ a, get σ.loc x = some a ∧ (av = a ∨ av = sb1 i l a)) :
    ∃ Z', Ext Z φ Z' φ ∧ Rel B Z' φ env ⟨loc', σ.led.set i .gone⟩ fr s := by
  obtain ⟨p, o, items, n, hi, hz, ho, rl, I⟩ := inv_freeze R.inv R.len h
  have x : Ext Z φ (Z.put p o) φ := ⟨Fz.le.put hz, List.prefix_refl _⟩
  have key : ∀ y av v, get loc' y = some av → (∀ a, get σ.loc y = some a → RelV B Z φ v a) → RelV B (Z.put p o) φ v av := fun y av v e g => by
    obtain ⟨a, e1, rfl | rfl⟩ := hloc y av e
    · exact (g _ e1).mono x
    · exact (g _ e1).sb1 hi hz ho rl
  refine ⟨_, x, ⟨I.weak (Weak.append ?_ (Weak.append (weak_led x φ _) (Weak.refl fr))), by simp [R.len]⟩⟩
  refine .cons (fun o ⟨es, ep, q1, q2, q3⟩ => ⟨es, ep, q1, q2, fun y av h1 h2 => ?_⟩) ?_
  · obtain ⟨a, e1, _⟩ := hloc y av h2
    obtain ⟨v, e3, e4⟩ := q3 y a h1 e1
    exact ⟨v, e3, key y av v h2 fun a' ha' => by rw [e1] at ha'; cases ha'; exact e4⟩
  · generalize env.cells = cs
    induction cs with
    | nil => exact .nil
    | cons d r ih =>
      refine .cons (fun o ⟨v, q1, q2⟩ => ⟨v, q1, fun av h2 => ?_⟩) ih
      obtain ⟨a, e1, _⟩ := hloc _ av h2
      obtain ⟨v', e3, e4⟩ := q2 a e1
      exact ⟨v', e3, key _ av v' h2 fun a' ha' => by rw [e1] at ha'; cases ha'; exact e4⟩

/-- a dict freezes: its entry is gone -/
theorem RelKV.keys' {a b} (h : RelKV B Z φ a b) : a.map (·.1) = b.map (·.1) ∧ RelVs B Z φ (a.map (·.2)) (b.map (·.2)) := by
  induction h with
  | nil => exact ⟨rfl, .nil⟩
  | cons h _ ih => exact ⟨by simp [ih.1], .cons h ih.2⟩
def sbd (i : Nat) (d : List (Int × AV)) : AV → AV
  | .ref j => if j = i then .dct (d.map (·.1)) (d.map (·.2)) else .ref j
  | a => a
theorem Rel.frzD (R : Rel B Z φ env σ fr s) {i : Nat} {d : List (Int × AV)} {loc'} (h : σ.led[i]? = some (.dict d)) (hloc : ∀ x av, get loc' x = some av → ∃ a, get σ.loc x = some a ∧ (av = a ∨ av = sbd i d a)) :
    ∃ Z', Ext Z φ Z' φ ∧ Rel B Z' φ env ⟨loc', σ.led.set i .gone⟩ fr s := by
  obtain ⟨p, φ1, φ2, l1, l2, h1, h2, h3, h4, h5⟩ := zip_split R.len h
  have e : σ.led.set i .gone = l1 ++ .gone :: l2 := by rw [h3, ← h5, set_mid]
  have s1 := led_split (B := B) (Z := Z) (φ := φ) (χ := φ) (φ1 := φ1) (φ2 := φ2) (a := p) (m := .dict d) (l1 := l1) (l2 := l2) h4
  have s2 := led_split (B := B) (Z := Z) (φ := φ) (χ := φ) (φ1 := φ1) (φ2 := φ2) (a := p) (m := .gone) (l1 := l1) (l2 := l2) h4
  rw [← h2] at s1 s2
  have I := R.inv
  have P : (frameE B Z φ env σ.loc ++ (ledE B Z φ σ.led ++ fr)).Perm ((p, MOP B Z φ (.dict d)) :: (frameE B Z φ env σ.loc ++ (ledE B Z φ (σ.led.set i .gone) ++ fr))) := by
    unfold ledE
    rw [e]
    conv => lhs; rw [h3]
    rw [s1, s2]
    simp only [entM, List.nil_append, List.singleton_append, List.append_assoc, List.cons_append]
    refine (List.Perm.append_left _ List.perm_middle).trans List.perm_middle
  have J := I.perm P
  obtain ⟨o, ho, kvs, q1, q2⟩ := J.ent _ List.mem_cons_self
  have hz : Z p = Option.none := J.dj _ List.mem_cons_self
  have hpi := J.hi _ List.mem_cons_self
  have K := J.freeze ho
  have x : Ext Z φ (Z.put p o) φ := ⟨Fz.le.put hz, List.prefix_refl _⟩
  have hsm : (p == sysModules) = false := by
    have lo := B.lo
    rw [beq_eq_false_iff_ne]; rintro rfl; exact absurd lo (Nat.not_lt.mpr hpi)
  have key : ∀ y av v, get loc' y = some av → (∀ a, get σ.loc y = some a → RelV B Z φ v a) → RelV B (Z.put p o) φ v av := fun y av v e g => by
    obtain ⟨a, e1, rfl | rfl⟩ := hloc y av e
    · exact (g _ e1).mono x
    · have ga := g _ e1
      cases a with
      | ref j =>
        obtain ⟨_, rfl, hj⟩ := ga.ref_i
        show RelV B (Z.put p o) φ _ (if j = i then _ else .ref j)
        by_cases e : j = i
        · subst e
          rw [if_pos rfl]
          obtain rfl := Option.some.inj (hj.symm.trans h1)
          exact .dct (Fz.put_self ..) q1 hsm q2.keys'.1 (q2.keys'.2.mono x)
        · rw [if_neg e]; exact .ref hj
      | _ => exact ga.mono x
  refine ⟨_, x, ⟨K.weak (Weak.append ?_ (Weak.append (weak_led x φ _) (Weak.refl fr))), by simp [R.len]⟩⟩
  refine .cons (fun o ⟨es, ep, q1, q2, q3⟩ => ⟨es, ep, q1, q2, fun y av h1 h2 => ?_⟩) ?_
  · obtain ⟨a, e1, _⟩ := hloc y av h2
    obtain ⟨v, e3, e4⟩ := q3 y a h1 e1
    exact ⟨v, e3, key y av v h2 fun a' ha' => by rw [e1] at ha'; cases ha'; exact e4⟩
  · generalize env.cells = cs
    induction cs with
    | nil => exact .nil
    | cons d r ih =>
      refine .cons (fun o ⟨v, q1, q2⟩ => ⟨v, q1, fun av h2 => ?_⟩) ih
      obtain ⟨a, e1, _⟩ := hloc _ av h2
      obtain ⟨v', e3, e4⟩ := q2 a e1
      exact ⟨v', e3, key _ av v' h2 fun a' ha' => by rw [e1] at ha'; cases ha'; exact e4⟩

/-! ### what a call hands back: the value and the ledger -/
inductive RW : AV → List MO → AV → List MO → Prop
  | refl (r led) : RW r led r led
  | frz {r led r' led' i l} : led[i]? = some (.list l) → RW (sb i l r) (led.set i .gone) r' led' → RW r led r' led'
  | cut {r led r' led' led1} : led1.length ≤ led.length → (∀ (i : Nat) mo, led1[i]? = some mo → (led[i]? = some mo ∧ nrM mo = true) ∨ mo = .gone) → low led1.length r = true → RW r led1 r' led' → RW r led r' led'
theorem RW.sound {r led r' led'} (h : RW r led r' led') : ∀ {Z φ v E s}, RelV B Z φ v r → φ.length = led.length → Inv B Z (ledE B Z φ led ++ E) s → ∀ k, k ≤ led'.length →
    ∃ Z' φ', Z.le Z' ∧ φ'.take k = φ.take k ∧ RelV B Z' φ' v r' ∧ φ'.length = led'.length ∧ Inv B Z' (ledE B Z' φ' led' ++ E) s := by
  induction h with
  | refl r led => intro Z φ v E s hv hl I k hk; exact ⟨Z, φ, .refl _, rfl, hv, hl, I⟩
  | @frz r led r' led' i l hi _ ih =>
    intro Z φ v E s hv hl I k hk
    obtain ⟨p, o, items, n, h1, hz, ho, rl, J⟩ := inv_freeze (E1 := []) I hl hi
    have x : Ext Z φ (Z.put p o) φ := ⟨Fz.le.put hz, List.prefix_refl _⟩
    obtain ⟨Z', φ', a, b, c, d, e⟩ := ih (hv.sb h1 hz ho rl) (by simp [hl]) (Inv.weak (E := ledE B Z φ (led.set i .gone) ++ E) J (Weak.append (weak_led x φ _) (Weak.refl _))) k hk
    exact ⟨Z', φ', (Fz.le.put hz).trans a, b, c, d, e⟩
  | @cut r led r' led' led1 hle hled hlow h2 ih =>
    intro Z φ v E s hv hl I k hk
    have hlen : (φ.take led1.length).length = led1.length := by rw [List.length_take]; exact ar100 hle hl
    obtain ⟨Z', φ', a, b, c, d, e⟩ := ih (hv.take hlow) hlen (I.sw ((sw_cut hle hled).append (SW.of_weak (Weak.refl _)))) k hk
    have hk1 : led'.length ≤ led1.length := by
      clear ih c d e hk b hlow hled hle hv hl I hlen
      induction h2 with
      | refl => exact Nat.le_refl _
      | frz _ _ ih => simpa using ih
      | cut h _ _ _ ih => exact Nat.le_trans ih h
    refine ⟨Z', φ', a, ?_, c, d, e⟩
    rw [b, List.take_take]; congr 1; exact ar101 hk hk1

end Mine
end
section
open PySem PySem.W PyProof.Rows
set_option Elab.async false
set_option linter.unusedVariables false
set_option maxRecDepth 100000
namespace Mine
variable {B : Base} {Z Z' : Fz} {φ φ' ψ : List Addr} {F : Frm} {σ : St} {Q : AV → St → Prop} {env : Env} {fr : List Ent} {s : Shared}

inductive RelKw (B : Base) (Z : Fz) (φ : List Addr) : List (Str × Value) → List (Str × AV) → Prop
  | nil : RelKw B Z φ [] []
  | cons {x v a vs as} : RelV B Z φ v a → RelKw B Z φ vs as → RelKw B Z φ ((x, v) :: vs) ((x, a) :: as)
theorem RelKw.nil_i {B : Base} {Z : Fz} {φ : List Addr} {vs} (h : RelKw B Z φ vs []) : vs = [] := by cases h; rfl
inductive KwI (B : Base) (Z : Fz) (φ : List Addr) (vs : List (Str × Value)) (x : Str) (a : AV) (as : List (Str × AV)) : Prop
  | mk : ∀ v vs', vs = (x, v) :: vs' → RelV B Z φ v a → RelKw B Z φ vs' as → KwI B Z φ vs x a as
theorem RelKw.cons_i {B : Base} {Z : Fz} {φ : List Addr} {vs x a as} (h : RelKw B Z φ vs ((x, a) :: as)) : KwI B Z φ vs x a as := by
  cases h with | cons h1 h2 => exact ⟨_, _, rfl, h1, h2⟩
abbrev Spec := List AV → List (Str × AV) → List MO → (AV → List MO → Prop) → Prop
inductive RetP (B : Base) (Z : Fz) (φ : List Addr) (E : List Ent) (Q : AV → List MO → Prop) (r : Result) (s' : Shared) : Prop
  | mk (v Z' φ' led' av) : r = .ok (.ret v) → Ext Z φ Z' φ' → RelV B Z' φ' v av → φ'.length = led'.length → Inv B Z' (ledE B Z' φ' led' ++ E) s' → Q av led' → RetP B Z φ E Q r s'
def SpecOK (B : Base) (ht : Nat) (f : AV) (spec : Spec) : Prop :=
  ∀ A Z φ E s fv vs ks args kws led Q, Rm ht A → RelV B Z φ fv f → RelVs B Z φ vs args → RelKw B Z φ ks kws → φ.length = led.length → Inv B Z (ledE B Z φ led ++ E) s → spec args kws led Q →
    codeAny (model B.prog B.w) A (.call fv ⟨vs, ks⟩) (fun r s' => RetP B Z φ E Q r s') s
theorem Rm.le {h h' A} (x : Rm h A) (l : h' ≤ h) : Rm h' A := ⟨x.hd, by have := x.depth; exact ar271 l this, by have := x.units; exact ar272 l this⟩

inductive IsF : AV → Prop
  | fn (f) : IsF (.fn f)
  | lam (p b sc) : IsF (.lam p b sc)
theorem IsF.obj {a v} (h : IsF a) (hv : RelV B Z φ v a) {E} (I : Inv B Z E s) : ∃ p o fd, v = .ref p ∧ o.data = .func fd ∧ Z p = some o := by
  cases h with
  | fn f => cases hv with
    | fn hf =>
      obtain ⟨⟨o, fd, h1, h2⟩, h3⟩ := B.fnO _ _ hf
      exact ⟨_, o, fd, rfl, h2, I.base _ _ h1 h3⟩
  | lam p b sc => cases hv with
    | lam h1 h2 h3 => exact ⟨_, _, _, rfl, h2, h1⟩

/-- the call itself, in a frame -/
theorem call_end {A : Around} {fa : AV} {fv : Value} {vs : List Value} {ks : List (Str × Value)} {args : List AV} {kws : List (Str × AV)} {spec : Spec} {ht : Nat} (hA : Rm F.ht A) (ok : SpecOK B ht fa spec) (hht : ht ≤ F.ht)
    (R : Rel B Z φ env σ fr s) (hf : RelV B Z φ fv fa) (hv : RelVs B Z φ vs args) (hk : RelKw B Z φ ks kws) (h : spec args kws σ.led (fun r led' => Q r ⟨σ.loc, led'⟩)) :
    wpAny (model B.prog B.w) A (call fv vs ks) (PostV B env Z φ fr Q) NoE s := by
  have I : Inv B Z (ledE B Z φ σ.led ++ (frameE B Z φ env σ.loc ++ fr)) s := R.inv.perm (by
    rw [← List.append_assoc, ← List.append_assoc]; exact List.Perm.append_right _ List.perm_append_comm)
  refine wpAny_call (codeAny_mono (ok A Z φ _ s fv vs ks args kws σ.led _ (hA.le hht) hf hv hk R.len I h) fun r s' ⟨v, Z', φ', led', av, hr, x, rv, hl, I', hq⟩ => ?_)
  subst hr
  refine ⟨Z', φ', ⟨σ.loc, led'⟩, av, x, rv, ⟨?_, hl⟩, hq⟩
  have J := I'.weak (Weak.append (Weak.refl _) (Weak.append (weak_frame x env σ.loc) (Weak.refl fr)))
  refine J.perm ?_
  rw [← List.append_assoc, ← List.append_assoc]; exact List.Perm.append_right _ List.perm_append_comm

inductive CallP (B : Base) (F : Frm) (fa : AV) (as : List AV) (ks : List (Str × AV)) (Q : AV → St → Prop) (σ : St) : Prop
  | mk (spec ht) : SpecOK B ht fa spec → ht ≤ F.ht → spec as ks σ.led (fun r led' => Q r ⟨σ.loc, led'⟩) → CallP B F fa as ks Q σ
theorem r_callf {fx p e es pos} (h : WE B F (.Name fx p) (fun fa σ1 => IsF fa ∧ WL B F (e :: es) pos (fun as σ2 => CallP B F fa as [] Q σ2) σ1) σ)
    (hs : ∀ env, starEach (e :: es) env = (false, eval e env) :: starEach es env) : WE B F (.Call (.Name fx p) (e :: es) [] pos) Q σ := fun A env Z φ fr s hA hE R => by
  refine wpAny_Call_Name_kw (wpAny_mono (h A env Z φ fr s hA hE R) (fun fv s1 ⟨Z1, φ1, σ1, fa, x1, rf, R1, hF, h1⟩ => ?_) fun _ _ e => e)
  obtain ⟨q, o, fd, rfl, hd, hz⟩ := hF.obj rf R1.inv
  refine callWith_function_kw (o := o) (fd := fd) ?_
  have h1' := h1 A env Z1 φ1 fr s1 hA hE R1
  rw [hs] at h1' ⊢
  refine evalArgs_kw rfl (wpAny_mono h1' (fun vs s2 ⟨Z2, φ2, σ2, as, x2, rv, R2, spec, ht, ok, hht, h2⟩ => wpAny_evalAll_nil ⟨⟨R2.inv.fz _ _ (x2.z _ _ hz), hd⟩, ?_⟩) fun _ _ e => e)
  exact wpAny_mono (call_end hA ok hht R2 (rf.mono x2) rv .nil h2) (fun _ _ p => p.up (x1.trans x2)) fun _ _ e => e
theorem r_callk {fx p e es k kv kp pos} (h : WE B F (.Name fx p) (fun fa σ1 => IsF fa ∧ WL B F (e :: es) pos (fun as σ2 => WE B F kv (fun ka σ3 => CallP B F fa as [(k, ka)] Q σ3) σ2) σ1) σ)
    (hs : ∀ env, starEach (e :: es) env = (false, eval e env) :: starEach es env) : WE B F (.Call (.Name fx p) (e :: es) [⟨some k, kv, kp⟩] pos) Q σ := fun A env Z φ fr s hA hE R => by
  refine wpAny_Call_Name_kw (wpAny_mono (h A env Z φ fr s hA hE R) (fun fv s1 ⟨Z1, φ1, σ1, fa, x1, rf, R1, hF, h1⟩ => ?_) fun _ _ e => e)
  obtain ⟨q, o, fd, rfl, hd, hz⟩ := hF.obj rf R1.inv
  refine callWith_function_kw (o := o) (fd := fd) ?_
  have h1' := h1 A env Z1 φ1 fr s1 hA hE R1
  rw [hs] at h1' ⊢
  refine evalArgs_kw rfl (wpAny_mono h1' (fun vs s2 ⟨Z2, φ2, σ2, as, x2, rv, R2, h2⟩ => ?_) fun _ _ e => e)
  refine wpAny_evalAll_cons (wpAny_bind (wpAny_mono (h2 A env Z2 φ2 fr s2 hA hE R2) (fun u s3 ⟨Z3, φ3, σ3, ka, x3, ru, R3, spec, ht, ok, hht, h3⟩ => wpAny_bind (wpAny_standAt (wpAny_pure (wpAny_evalAll_nil
    ⟨⟨R3.inv.fz _ _ (x3.z _ _ (x2.z _ _ hz)), hd⟩, ?_⟩)))) fun _ _ e => e))
  exact wpAny_mono (call_end hA ok hht R3 (rf.mono (x2.trans x3)) (rv.mono x3) (.cons ru .nil) h3) (fun _ _ p => p.up ((x1.trans x2).trans x3)) fun _ _ e => e

/-- calls of built-in functions and of types -/
def WCall (B : Base) (F : Frm) (f : Value) (as : List AV) (Q : AV → St → Prop) (σ : St) : Prop :=
  ∀ A env Z φ fr s vs, Rm F.ht A → EnvOk F env → RelVs B Z φ vs as → Rel B Z φ env σ fr s → wpAny (model B.prog B.w) A (call f vs) (PostV B env Z φ fr Q) NoE s
inductive BiP (B : Base) (F : Frm) (es : List Expr) (pos : Pos) (Q : AV → St → Prop) (fa : AV) (σ1 : St) : Prop
  | mk (id) : fa = .bi id → WL B F es pos (fun as σ2 => WCall B F (.builtin id) as Q σ2) σ1 → BiP B F es pos Q fa σ1
inductive TyP (B : Base) (F : Frm) (es : List Expr) (pos : Pos) (Q : AV → St → Prop) (fa : AV) (σ1 : St) : Prop
  | mk (T) : fa = .ty T → WL B F es pos (fun as σ2 => WCall B F (.type T) as Q σ2) σ1 → TyP B F es pos Q fa σ1
theorem r_callb {fx p e es pos} (h : WE B F (.Name fx p) (fun fa σ1 => BiP B F (e :: es) pos Q fa σ1) σ)
    (hs : ∀ env, starEach (e :: es) env = (false, eval e env) :: starEach es env) (hp : ∀ env, (backTo pos (starEach es env)).any (·.1) = false) : WE B F (.Call (.Name fx p) (e :: es) [] pos) Q σ := fun A env Z φ fr s hA hE R => by
  refine wpAny_Call_Name_kw (wpAny_mono (h A env Z φ fr s hA hE R) (fun fv s1 ⟨Z1, φ1, σ1, fa, x1, rf, R1, id, hid, h1⟩ => ?_) fun _ _ e => e)
  subst hid
  obtain rfl := rf.bi_i
  have h1' := h1 A env Z1 φ1 fr s1 hA hE R1
  rw [hs] at h1' ⊢
  refine Calls.callWith_builtin (by show (false || (backTo pos (starEach es env)).any (·.1)) = false; rw [hp]; rfl) (Calls.evalArgs_plain (wpAny_mono h1' (fun vs s2 ⟨Z2, φ2, σ2, as, x2, rv, R2, h2⟩ => ?_) fun _ _ e => e))
  exact wpAny_mono (h2 A env Z2 φ2 fr s2 vs hA hE rv R2) (fun _ _ p => p.up (x1.trans x2)) fun _ _ e => e
theorem r_callt {fx p e es pos} (h : WE B F (.Name fx p) (fun fa σ1 => TyP B F (e :: es) pos Q fa σ1) σ)
    (hs : ∀ env, starEach (e :: es) env = (false, eval e env) :: starEach es env) (hp : ∀ env, (backTo pos (starEach es env)).any (·.1) = false) : WE B F (.Call (.Name fx p) (e :: es) [] pos) Q σ := fun A env Z φ fr s hA hE R => by
  refine wpAny_Call_Name_kw (wpAny_mono (h A env Z φ fr s hA hE R) (fun fv s1 ⟨Z1, φ1, σ1, fa, x1, rf, R1, id, hid, h1⟩ => ?_) fun _ _ e => e)
  subst hid
  obtain rfl := rf.ty_i
  have h1' := h1 A env Z1 φ1 fr s1 hA hE R1
  rw [hs] at h1' ⊢
  refine PySem.callWith_type (by show (false || (backTo pos (starEach es env)).any (·.1)) = false; rw [hp]; rfl) (Calls.evalArgs_plain (wpAny_mono h1' (fun vs s2 ⟨Z2, φ2, σ2, as, x2, rv, R2, h2⟩ => ?_) fun _ _ e => e))
  exact wpAny_mono (h2 A env Z2 φ2 fr s2 vs hA hE rv R2) (fun _ _ p => p.up (x1.trans x2)) fun _ _ e => e

/-! ### a def's contract, by its body -/
theorem Rm.deeper {h A env} (x : Rm (h + 1) A) : Rm h (A.deeper env) := ⟨x.hd, by show A.depth + 1 + h < 400; have := x.depth; exact ar273 this, by show A.units + 3 + 10 * h < 1000; have := x.units; exact ar274 this⟩

/-- the words of a def at the top -/
inductive DefAt (B : Base) (f : String) (params : Arguments) (body : List Stmt) (scope : Scope) (c : Addr) (qual : Str) (P : Value → Value → Prop) : Prop
  | mk : ∀ a oc od osl name dV kV doc pm an ct, B.fn f = some a → B.H.get? a = some ⟨oc, od, .func (fnOf name qual params body scope dV kV doc pm an (.ref c) ct), osl⟩ → B.H.CodeRec (.ref c) qual → (∀ t ∈ B.tabs, t.P ≠ c) → P dV kV → DefAt B f params body scope c qual P
/-- what a body leaves to the caller -/
inductive AftN (Q : AV → List MO → Prop) (led L : List MO) : Prop
  | mk : ∀ led', RW .none L .none led' → led.length ≤ led'.length → Q .none led' → AftN Q led L
inductive Aft (Q : AV → List MO → Prop) (led : List MO) (r : AV) (L : List MO) : Prop
  | mk : ∀ r' led', RW r L r' led' → led.length ≤ led'.length → Q r' led' → Aft Q led r L
/-- a body's promise, its names bound -/
inductive BodyP (B : Base) (scope : Scope) (cq : Option (Addr × Str)) (ht : Nat) (body : List Stmt) (Z : Fz) (φ : List Addr) (PB : List (Str × Value) → Prop) (led : List MO) (Q : AV → List MO → Prop) : Prop
  | mk : ∀ cb ab, PB cb → RelKw B Z φ cb ab → (cb.map (·.1)).Nodup → (∀ x ∈ cb, scope.names.lookup x.1 = some .local) →
      WSs B ⟨scope, cq, ht⟩ body (fun σ' => AftN Q led σ'.led) (fun r σ' => Aft Q led r σ'.led) ⟨ab, led⟩ → BodyP B scope cq ht body Z φ PB led Q

theorem lookup_append' {α β : Type} [BEq α] [LawfulBEq α] (l m : List (α × β)) (x : α) : (l ++ m).lookup x = (l.lookup x).or (m.lookup x) := by
  induction l with
  | nil => rfl
  | cons p r ih =>
    obtain ⟨k, v⟩ := p
    rw [List.cons_append, List.lookup_cons, List.lookup_cons]
    by_cases e : (x == k) = true
    · rw [e]; rfl
    · have e' : (x == k) = false := by simpa using e
      rw [e']; exact ih
theorem kw_get {binds : List (Str × Value)} {ab : List (Str × AV)} (h : RelKw B Z φ binds ab) (hn : (binds.map (·.1)).Nodup) : ∀ x av, get ab x = some av → ∃ v, binds.reverse.lookup x = some v ∧ RelV B Z φ v av := by
  induction h with
  | nil => intro x av e; cases e
  | @cons y v a vs as hv h2 ih =>
    intro x av e
    simp only [List.map_cons, List.nodup_cons] at hn
    rw [List.reverse_cons, lookup_append']
    unfold get at e
    by_cases q : y = x
    · subst q
      rw [if_pos rfl] at e; cases e
      have no : vs.reverse.lookup y = none := by
        cases hh : vs.reverse.lookup y with
        | none => rfl
        | some w => exact absurd (List.mem_map.mpr ⟨(y, w), List.mem_reverse.mp (mem_of_lookup' hh), rfl⟩) hn.1
      rw [no]
      exact ⟨v, by simp, hv⟩
    · rw [if_neg q] at e
      obtain ⟨w, e1, e2⟩ := ih hn.2 x av e
      exact ⟨w, by rw [e1]; rfl, e2⟩

theorem Inv.lim {E} (I : Inv B Z E s) : s.heap.NoLimit := by
  obtain ⟨mc, ⟨o, es, ep, ho, r⟩, h⟩ := B.lim
  exact ⟨mc, ⟨o, es, ep, I.fz _ _ (I.base _ _ ho fun t ht => (B.nt t ht).2.2), r⟩, h⟩
theorem Inv.codeRec {E} (I : Inv B Z E s) {c : Addr} {q : Str} (h : B.H.CodeRec (.ref c) q) (hc : ∀ t ∈ B.tabs, t.P ≠ c) : s.heap.CodeRec (.ref c) q := by
  obtain ⟨c', o, vs, t, e, ho, r⟩ := h
  cases e
  exact ⟨_, o, vs, t, rfl, I.fz _ _ (I.base _ _ ho hc), r⟩

/-- a frame is laid: the callee's state -/
theorem Inv.frame {E : List Ent} {led : List MO} {L : Addr} {env : Env} {h₁ : Heap} {tk : Nat} {m : Str → Option Value} {ab : List (Str × AV)} (I : Inv B Z (ledE B Z φ led ++ E) s) (hl : φ.length = led.length) (hk : ∀ b o, s.heap.get? b = some o → h₁.get? b = some o)
    (hL : s.heap.objs.size ≤ L) (hn : h₁.Ns L m) (hb : ∀ x av, get ab x = some av → ∃ v, m x = some v ∧ RelV B Z φ v av) (he : env.locals = L) (hc : env.cells = []) : Rel B Z φ env ⟨ab, led⟩ E { s with heap := h₁, toks := tk } := by
  obtain ⟨o, es, ep, ho, hd, hs, hf⟩ := hn
  have J := I.new (tk := tk) (p := NsP B Z φ env.scope.names ab) hk hL ho ⟨es, ep, hd, hs, fun x av _ h2 => by obtain ⟨v, e1, e2⟩ := hb x av h2; exact ⟨v, by rw [hf]; exact e1, e2⟩⟩
  refine ⟨?_, hl⟩
  simpa [frameE, hc, he] using J

/-- back from the callee: its value and the ledger, weakened -/
theorem back {Z0 Z1 : Fz} {φ0 φ1 : List Addr} {E : List Ent} {led0 : List MO} {σ1 : St} {v : Value} {r r' : AV} {led' : List MO} {Q : AV → List MO → Prop} (x : Ext Z0 φ0 Z1 φ1) (R : Rel B Z1 φ1 env σ1 E s) (hv : RelV B Z1 φ1 v r) (hw : RW r σ1.led r' led')
    (hl0 : φ0.length = led0.length) (hle : led0.length ≤ led'.length) (hq : Q r' led') :
    RetP B Z0 φ0 E Q (.ok (.ret v)) s := by
  have I : Inv B Z1 (ledE B Z1 φ1 σ1.led ++ E) s := R.inv.drop (List.sublist_append_right _ _)
  obtain ⟨Z', φ', a, b, c, d, e⟩ := hw.sound hv R.len I φ0.length (ar275 hl0 hle)
  refine ⟨v, Z', φ', led', r', rfl, ⟨x.z.trans a, ?_⟩, c, d, e, hq⟩
  obtain ⟨t, ht⟩ := x.p
  have : φ1.take φ0.length = φ0 := by rw [← ht]; simp
  rw [this] at b
  exact b ▸ List.take_prefix _ _

theorem spec_def {f params body scope c qual P spec ht} (D : DefAt B f params body scope c qual P) (hcell : ∀ x ∈ scope.names, x.2 ≠ .cell) (hk : scope.kind = .function) (hco : scope.isCoroutine = false) (hgen : scope.isGenerator = false)
    (h : ∀ Z φ E s vs ks args kws led Q name dV kV doc pm an ct, P dV kV → Inv B Z (ledE B Z φ led ++ E) s → RelVs B Z φ vs args → RelKw B Z φ ks kws → spec args kws led Q →
      BodyP B scope (some (c, qual ++ ".<locals>.")) ht body Z φ (BindsTo s (fnOf name qual params body scope dV kV doc pm an (.ref c) ct) ⟨vs, ks⟩) led Q) : SpecOK B (ht + 1) (.fn f) spec := by
  intro A Z φ E s fv vs ks args kws led Q hA hf hv hkw hl I hsp
  obtain ⟨a, oc, od, osl, name, dV, kV, doc, pm, an, ct, h1, h2, h3, h4, hP⟩ := D
  obtain rfl := hf.fn_e h1
  obtain ⟨cb, ab, hb, rb, hnd, hloc, hbody⟩ := h Z φ E s vs ks args kws led Q name dV kV doc pm an ct hP I hv hkw hsp
  refine codeAny_call_def (fd := fnOf name qual params body scope dV kV doc pm an (.ref c) ct) (body := body) (binds := cb) (by have := hA.depth; show A.depth < 1000; exact ar40 this) (I.fz _ _ (I.base _ _ h2 (B.fnO _ _ h1).2)) rfl I.lim (I.codeRec h3 h4) rfl hb hcell hloc
    (fun h₁ hns hk₁ => ?_) hco hgen hk
  have R := I.frame (tk := s.toks + cb.length) (env := callEnv (fnOf name qual params body scope dV kV doc pm an (.ref c) ct) s.heap.objs.size a) hl hk₁ (Nat.le_refl _) hns (kw_get rb hnd) rfl rfl
  have hE : EnvOk ⟨scope, some (c, qual ++ ".<locals>."), ht⟩ (callEnv (fnOf name qual params body scope dV kV doc pm an (.ref c) ct) s.heap.objs.size a) :=
    ⟨rfl, hk, rfl, rfl, fun c' q e => by cases e; exact ⟨rfl, rfl⟩, fun x hx => absurd rfl (hcell _ (mem_of_lookup' hx)), (fun c' hc => by cases hc), List.nodup_nil, by show [] = _; rw [cellsFrom_none _ _ _ hcell]; rfl⟩
  refine wpAny_mono (hbody _ _ Z φ E _ (Rm.deeper hA) hE R) (fun fl s' ⟨Z1, φ1, σ1, x1, R1, q⟩ => ?_) fun _ _ e => e.elim
  cases fl with
  | next => obtain ⟨led', w, hle, hq⟩ := q; exact back x1 R1 .none w hl hle hq
  | ret v => obtain ⟨av, rv, r', led', w, hle, hq⟩ := q; exact back x1 R1 rv w hl hle hq
  | brk => exact q.elim
  | cont => exact q.elim

end Mine
end
section
open PySem PySem.W PyProof.Rows
set_option Elab.async false
set_option linter.unusedVariables false
set_option maxRecDepth 100000
namespace Mine
variable {B : Base} {Z Z' : Fz} {φ φ' ψ : List Addr} {F : Frm} {σ : St} {Q : AV → St → Prop} {env : Env} {fr : List Ent} {s : Shared}

theorem Inv.news {E : List Ent} (I : Inv B Z E s) {h' : Heap} {tk : Nat} (hk : ∀ b o, s.heap.get? b = some o → h'.get? b = some o) : ∀ N : List Ent, (∀ p ∈ N, s.heap.objs.size ≤ p.1 ∧ ∃ o, h'.get? p.1 = some o ∧ p.2 o) → (N.map (·.1)).Nodup →
    Inv B Z (N ++ E) { s with heap := h', toks := tk }
  | N, hN, nd => by
    have J := I.keeps (tk := tk) hk
    refine { J with ent := fun q hq => ?_, nd := ?_, dj := fun q hq => ?_, hi := fun q hq => ?_ }
    · rcases List.mem_append.mp hq with h | h
      · exact (hN q h).2
      · exact J.ent q h
    · rw [List.map_append, List.nodup_append]
      refine ⟨nd, I.nd, fun a ha b hb e => ?_⟩
      obtain ⟨q, hq, rfl⟩ := List.mem_map.mp ha
      exact I.efresh (hN q hq).1 (e ▸ hb)
    · rcases List.mem_append.mp hq with h | h
      · exact I.zfresh (hN q h).1
      · exact I.dj q h
    · rcases List.mem_append.mp hq with h | h
      · exact Nat.le_trans I.bsize (hN q h).1
      · exact I.hi q h

theorem bindL_local {k : Str → Option NameKind} : ∀ (binds : List (Str × Value)) (m : Str → Option Value), (∀ x ∈ binds, k x.1 = some .local) → ∀ y, bindL k binds m y = (binds.reverse.lookup y).or (m y)
  | [], _, _, _ => rfl
  | (n, v) :: r, m, h, y => by
    unfold bindL
    rw [if_pos (h _ List.mem_cons_self), bindL_local r _ (fun x hx => h x (List.mem_cons_of_mem _ hx)), List.reverse_cons, lookup_append']
    cases hh : r.reverse.lookup y with
    | some w => rfl
    | none =>
      by_cases e : y = n
      · subst e; simp
      · have : (y == n) = false := by simpa using e
        simp [List.lookup_cons, this, e]
theorem bindC_local {k : Str → Option NameKind} : ∀ (binds : List (Str × Value)) (m : Str → Option Value), (∀ x ∈ binds, k x.1 = some .local) → ∀ y, bindC k binds m y = m y
  | [], _, _, _ => rfl
  | (n, v) :: r, m, h, y => by
    unfold bindC
    rw [if_pos (h _ List.mem_cons_self)]
    exact bindC_local r _ (fun x hx => h x (List.mem_cons_of_mem _ hx)) y

theorem spec_defC {f params body scope c qual P spec ht} (D : DefAt B f params body scope c qual P) (hck : ∀ x ∈ (cellsFrom 0 scope.names []).map (·.1), scope.names.lookup x = some .cell) (hcn : ((cellsFrom 0 scope.names []).map (·.1)).Nodup)
    (hk : scope.kind = .function) (hco : scope.isCoroutine = false) (hgen : scope.isGenerator = false) (hkw : ∀ args kws led Q, spec args kws led Q → kws = [])
    (h : ∀ Z φ E s vs args led Q name dV kV doc pm an ct, P dV kV → Inv B Z (ledE B Z φ led ++ E) s → RelVs B Z φ vs args → spec args [] led Q →
      BodyP B scope (some (c, qual ++ ".<locals>.")) ht body Z φ (fun cb => bindArgs (fnOf name qual params body scope dV kV doc pm an (.ref c) ct) ⟨vs, []⟩ = pure cb) led Q) : SpecOK B (ht + 1) (.fn f) spec := by
  intro A Z φ E s fv vs ks args kws led Q hA hf hv hkv hl I hsp
  obtain rfl := hkw _ _ _ _ hsp
  obtain rfl := hkv.nil_i
  obtain ⟨a, oc, od, osl, name, dV, kV, doc, pm, an, ct, h1, h2, h3, h4, hP⟩ := D
  obtain rfl := hf.fn_e h1
  obtain ⟨cb, ab, hb, rb, hnd, hloc, hbody⟩ := h Z φ E s vs args led Q name dV kV doc pm an ct hP I hv hsp
  have nms : (cellsFrom (s.heap.objs.size + 1) scope.names []).map (·.1) = (cellsFrom 0 scope.names []).map (·.1) := cellsFrom_names _ _ _ _ _ rfl
  refine codeAny_call_cells (fd := fnOf name qual params body scope dV kV doc pm an (.ref c) ct) (body := body) (binds := cb) (by have := hA.depth; show A.depth < 1000; exact ar40 this) (I.fz _ _ (I.base _ _ h2 (B.fnO _ _ h1).2)) rfl I.lim (I.codeRec h3 h4) rfl hb rfl
    (fun x hx => .inl (hloc x hx)) (fun s₁ X => ?_) hco hgen hk
  obtain ⟨h₁, tk, rfl, hk₁⟩ := X.done
  have hlk : ∀ x ∈ cb, (callEnvC (fnOf name qual params body scope dV kV doc pm an (.ref c) ct) s.heap.objs.size a).kindOf x.1 = some .local := hloc
  obtain ⟨o, es, ep, ho, hd, hs, hfind⟩ := X.toInCall.ns
  have abn : ∀ x av, get ab x = some av → scope.names.lookup x = some .local := fun x av e => by
    obtain ⟨v, e1, _⟩ := kw_get rb hnd x av e
    exact hloc _ (List.mem_reverse.mp (mem_of_lookup' e1))
  have R : Rel B Z φ (callEnvC (fnOf name qual params body scope dV kV doc pm an (.ref c) ct) s.heap.objs.size a) ⟨ab, led⟩ E { s with heap := h₁, toks := tk } := by
    refine ⟨?_, hl⟩
    refine I.news hk₁ (frameE B Z φ _ ab) (fun p hp => ?_) ?_
    · rcases List.mem_cons.mp hp with rfl | hp
      · refine ⟨Nat.le_refl _, o, ho, es, ep, hd, hs, fun x av hx e => ?_⟩
        obtain ⟨v, e1, e2⟩ := kw_get rb hnd x av e
        exact ⟨v, by rw [hfind, bindL_local _ _ hlk, e1]; rfl, e2⟩
      · obtain ⟨⟨n, d⟩, hm, rfl⟩ := List.mem_map.mp hp
        refine ⟨Nat.le_of_lt (X.above n d hm), ?_⟩
        obtain ⟨o', ho', hd'⟩ := X.cell n d (lookup_of_mem_nodup (by show ((cellsFrom (s.heap.objs.size + 1) scope.names []).map (·.1)).Nodup; rw [nms]; exact hcn) hm)
        refine ⟨o', ho', _, hd', fun av e => ?_⟩
        have q1 := abn n av e
        have q2 := hck n (by rw [← nms]; exact List.mem_map.mpr ⟨(n, d), hm, rfl⟩)
        rw [q1] at q2; cases q2
    · simp only [frameE, List.map_cons, List.map_map, List.nodup_cons]
      refine ⟨fun q => ?_, ?_⟩
      · obtain ⟨⟨n, d⟩, hm, e⟩ := List.mem_map.mp q
        exact absurd (show d = s.heap.objs.size from e) (Nat.ne_of_gt (X.above n d hm))
      · have := X.apart
        rw [List.nodup_iff_pairwise_ne, List.pairwise_map]
        exact this
  have hE : EnvOk ⟨scope, some (c, qual ++ ".<locals>."), ht⟩ (callEnvC (fnOf name qual params body scope dV kV doc pm an (.ref c) ct) s.heap.objs.size a) :=
    ⟨rfl, hk, rfl, rfl, fun c' q e => by cases e; exact ⟨rfl, rfl⟩, fun x hx => Option.isSome_iff_exists.mp (cellsFrom_some scope.names _ [] (.inl hx)),
      fun d hd => hck _ (by rw [← nms]; exact List.mem_map_of_mem hd), by show ((cellsFrom (s.heap.objs.size + 1) scope.names []).map (·.1)).Nodup; rw [nms]; exact hcn, nms⟩
  refine wpAny_mono (hbody _ _ Z φ E _ (Rm.deeper hA) hE R) (fun fl s' ⟨Z1, φ1, σ1, x1, R1, q⟩ => ?_) fun _ _ e => e.elim
  cases fl with
  | next => obtain ⟨led', w, hle, hq⟩ := q; exact back x1 R1 .none w hl hle hq
  | ret v => obtain ⟨av, rv, r', led', w, hle, hq⟩ := q; exact back x1 R1 rv w hl hle hq
  | brk => exact q.elim
  | cont => exact q.elim

/-! ### lambdas -/
/-- a lambda of one parameter, its body an expression that leaves the ledger -/
theorem spec_lam {p : Arguments} {b : Expr} {sc : Scope} {x : Str} {spec : Spec} {ht : Nat} (hp : ∀ (fd : FuncData) (v : Value), fd.params = p → fd.defaults = .none → bindArgs fd ⟨[v], []⟩ = pure [(x, v)]) (hx : sc.names.lookup x = some .local)
    (hcell : ∀ x ∈ sc.names, x.2 ≠ .cell) (hk : sc.kind = .function) (hco : sc.isCoroutine = false) (hgen : sc.isGenerator = false)
    (h : ∀ args kws led Q, spec args kws led Q → kws = [] ∧ ∃ a, args = [a] ∧ WE B ⟨sc, none, ht⟩ b (fun r σ' => σ'.led = led ∧ Q r led) ⟨[(x, a)], led⟩) : SpecOK B (ht + 1) (.lam p b sc) spec := by
  intro A Z φ E s fv vs ks args kws led Q hA hf hv hkv hl I hsp
  obtain ⟨rfl, a, rfl, hb⟩ := h _ _ _ _ hsp
  obtain rfl := hkv.nil_i
  replace hv := hv.cons_i; obtain ⟨v, _, rfl, hv, hv'⟩ := hv
  obtain rfl := hv'.nil_i
  obtain ⟨q, o, fd, rfl, h1, h2, L⟩ := hf.lam_i
  obtain ⟨c, oc, cvs, t, hc1, hc2, hc3, hc4⟩ := L.code
  refine kla_callFunE (by have := hA.depth; show A.depth < 1000; exact ar40 this) (I.fz _ _ h1) h2 (by rw [L.scope]; exact hco) (by rw [L.scope]; exact hgen) L.body ⟨c, oc, cvs, t, hc1, I.fz _ _ hc2, hc3, hc4⟩ ?_
  rw [hp fd v L.params L.dflt]
  refine wpAny_pure ?_
  rw [L.scope, L.globals, L.closure, L.builtins]
  refine wpAny_newFunctionEnv hcell (fun y hy => by simp at hy; subst hy; exact hx) (fun h₁ hns hsb => ?_) hk
  have hk₁ : ∀ b o, s.heap.get? b = some o → h₁.get? b = some o := fun b o e => hsb.extBut b o (Nat.ne_of_lt (Heap.lt_size e)) (Heap.get?_push_of_some _ e)
  have R := I.frame (tk := s.toks + [(x, v)].length) (env := newEnv sc s.heap.objs.size mainNs [] (fd.qualname ++ ".<locals>.") (some q) fd.code none builtinsNs) (ab := [(x, a)]) hl hk₁ (Nat.le_refl _) hns (fun y av e => by
    unfold get at e
    by_cases e' : x = y
    · subst e'; simp at e; subst e; exact ⟨v, by simp, hv⟩
    · simp [e', get] at e) rfl rfl
  have hE : EnvOk ⟨sc, none, ht⟩ (newEnv sc s.heap.objs.size mainNs [] (fd.qualname ++ ".<locals>.") (some q) fd.code none builtinsNs) :=
    ⟨rfl, hk, rfl, rfl, (fun c' q e => by cases e), fun y hy => absurd rfl (hcell _ (mem_of_lookup' hy)), (fun c' hc => by cases hc), List.nodup_nil, by show [] = _; rw [cellsFrom_none _ _ _ hcell]; rfl⟩
  refine ⟨I.lim.keeps hk₁, kla_codeExpr ?_⟩
  refine wpAny_mono (hb _ _ Z φ E _ (Rm.deeper hA) hE R) (fun u s' ⟨Z1, φ1, σ1, r, x1, rv, R1, hled, hq⟩ => ?_) fun _ _ e => e.elim
  exact back (Q := Q) x1 R1 rv (hled ▸ RW.refl r σ1.led) hl (Nat.le_refl _) hq

theorem codeAmong_ext {pos : Pos} {a b : Int} {c x : Value} (l : List Value) (h : TriplesOk l) (hn : codeAmong pos (l ++ [rawInt a, rawInt b, c]) = some x) : codeAmong pos l = some x ∨ x = c := by
  fun_induction TriplesOk l with
  | case1 =>
    simp only [List.nil_append, codeAmong, rawInt] at hn
    split at hn
    · cases hn; exact .inr rfl
    · cases hn
  | case2 a' t b' u y rest ih =>
    simp only [List.cons_append, codeAmong] at hn ⊢
    split at hn
    · rename_i hc; rw [if_pos hc]; exact .inl hn
    · rename_i hc; rw [if_neg hc]; exact ih h hn
  | case3 l h1 h2 => exact h.elim

/-- a code's table grows by a new code -/
theorem Inv.table {E : List Ent} (I : Inv B Z E s) {t : Tab} (ht : t ∈ B.tabs) {ps : Array Value} (I1 : s.heap.IsCode t.c t.P ps) (I2 : s.heap.TableAt t.c t.P ps) (I3 : ∀ pos c, codeAmong pos ps.toList = some c → ZCode Z c t.q) {h' : Heap} {tk : Nat} {a b : Int} {c' : Addr}
    (hx : Heap.ExtBut t.P s.heap h') (hge : s.heap.objs.size ≤ c') (hrec : h'.CodeRec (.ref c') t.q) (htb : h'.get? t.P = some (tabObj (ps ++ #[rawInt a, rawInt b, .ref c']))) :
    ∃ o, Inv B (Z.put c' o) E { s with heap := h', toks := tk } ∧ Z c' = Option.none := by
  obtain ⟨c₂, oc, vs, tt, e2, hoc, hd, hv⟩ := hrec
  cases e2
  have htr : TriplesOk ps.toList := by
    obtain ⟨o, vs, file, tf, flags, tg, inF, text, tt, op, f1, f2, f3, f4, f5, f6, f7, f8, f9, f10, _⟩ := I1
    exact f10
  have hz := I.zfresh hge
  have hlo := I.tlo t ht
  have zne : ∀ b o, Z b = some o → b ≠ t.P := fun b o e q => by subst q; rw [I.tz t ht] at e; cases e
  have ene : ∀ p ∈ E, p.1 ≠ t.P := fun p hp q => absurd (Nat.lt_of_lt_of_le hlo.2 (I.hi p hp)) (by rw [q]; exact Nat.lt_irrefl _)
  have bs := I.bsize
  have tP' : ∀ t' ∈ B.tabs, t'.P ≠ c' := fun t' h' => Nat.ne_of_lt (Nat.lt_of_lt_of_le (I.tlo t' h').2 (Nat.le_trans bs hge))
  have C := CodeHd.of I1 I2
  have C' : CodeHd h' t.c t.P := by
    obtain ⟨o, vs, file, tf, flags, tg, inF, text, tt, g1, g2, g3, g4, g5, g6, g7, g8, g9, g10⟩ := C
    exact ⟨o, vs, file, tf, flags, tg, inF, text, tt, hx _ _ g10 g1, g2, g3, g4, g5, g6, g7, g8, g9, g10⟩
  have htr' : TriplesOk (ps ++ #[rawInt a, rawInt b, .ref c']).toList := by simpa using TriplesOk_snoc a b (.ref c') ps.toList htr
  obtain ⟨ps₀, hb₀⟩ := B.tb t ht
  refine ⟨oc, ?_, hz⟩
  refine { fz := fun b' o e => ?_, base := fun b' o e g => Fz.le.put hz _ _ (I.base b' o e g), ent := fun p hp => ?_, nd := I.nd, dj := fun p hp => ?_, hi := I.hi, tab := fun t' ht' => ?_, tz := fun t' ht' => ?_, tlo := I.tlo, old := I.old.step_table hb₀ I2 (C'.tab htb) hx (B.nt t ht).2.2, gens := I.gens, os := I.os }
  · by_cases hb : b' = c'
    · subst hb; rw [Fz.put_self] at e; cases e; exact hoc
    · rw [Fz.put_ne _ _ hb] at e; exact hx _ _ (zne _ _ e) (I.fz _ _ e)
  · obtain ⟨o, e1, e2⟩ := I.ent p hp
    exact ⟨o, hx _ _ (ene p hp) e1, e2⟩
  · rw [Fz.put_ne _ _ (fun e => I.efresh hge (List.mem_map.mpr ⟨p, hp, e⟩))]; exact I.dj p hp
  · by_cases et : t' = t
    · subst et
      refine ⟨_, C'.code htb htr', C'.tab htb, fun pos c hc => ?_⟩
      have hc' : codeAmong pos (ps.toList ++ [rawInt a, rawInt b, .ref c']) = some c := by simpa using hc
      rcases codeAmong_ext _ htr hc' with q | q
      · exact (I3 pos c q).mono (Fz.le.put hz)
      · subst q; exact ⟨c', oc, vs, tt, rfl, Fz.put_self .., hd, hv⟩
    · obtain ⟨ps', x, y, z⟩ := I.tab t' ht'
      have n1 : t'.c ≠ t.P := (B.tn t' ht' t ht).1
      have n2 : t'.P ≠ t.P := fun e => et ((B.tn t' ht' t ht).2 e)
      exact ⟨ps', x.extBut hx n1 n2, y.extBut hx n1 n2, fun pos c hc => (z pos c hc).mono (Fz.le.put hz)⟩
  · rw [Fz.put_ne _ _ (tP' t' ht')]; exact I.tz t' ht'

/-- a lambda is made -/
theorem r_lambda {p b sc pos c P q} (hc : F.code = some (c, q)) (ht : (⟨c, P, q ++ "<lambda>"⟩ : Tab) ∈ B.tabs) (hdef : ∀ env, defaultsOf p env = ([], [])) (hcl : ∀ env, closureFor sc env = pure []) (h : Q (.lam p b sc) σ) :
    WE B F (.Lambda p b sc pos) Q σ := fun A env Z φ fr s hA hE R => by
  obtain ⟨hcode, hq⟩ := hE.code c q hc
  obtain ⟨ps, I1, I2, I3⟩ := R.inv.tab _ ht
  have hlo := R.inv.tlo _ ht
  have C := CodeHd.of I1 I2
  have hP := I2.2
  have htr : TriplesOk ps.toList := by
    obtain ⟨o, vs, file, tf, flags, tg, inF, text, tt, op, f1, f2, f3, f4, f5, f6, f7, f8, f9, f10, _⟩ := I1
    exact f10
  obtain ⟨bm, ob, m1, m2, m3, m4, m5, m6, m7, m8⟩ := B.bm
  have hBA : s.heap.BuiltinsAt B.mg P := ⟨bm, ob, m1, m2, m3, (m4 _ ht).symm, R.inv.fz _ _ (R.inv.base _ _ m5 m4), m6, m7, m8⟩
  refine kla_eval (hdef env) ?_
  rw [hq]
  cases hf : codeAmong pos ps.toList with
  | some cv =>
    refine kla_makeFunctionHit (mg := B.mg) (hcl env) hE.gl R.inv.gNs hcode C hP htr hf hBA fun ctv h' tk hk hsz => ?_
    obtain ⟨R2, x2⟩ := R.allocZ (tk := tk) (a := h'.objs.size) (fun b' o e => Heap.get?_push_of_some { cls := .type "function", data := .func (kla_fn "<lambda>" (q ++ "<lambda>") p b sc [] ((B.mg "__name__").getD .none) cv ctv) } (hk b' o e)) hsz (Heap.get?_push_size _ rfl)
    exact ⟨_, _, σ, .lam p b sc, x2, .lam (Fz.put_self ..) rfl ⟨rfl, rfl, rfl, rfl, rfl, rfl, rfl, rfl, (I3 _ _ hf).mono x2.z⟩, R2, h⟩
  | none =>
    refine kla_makeFunction (mg := B.mg) (hcl env) hE.gl R.inv.gNs hcode C hP htr hf (Ne.symm (B.nt _ ht).1) hBA fun c' ctv h' tk hx hge hlt hrec htb => ?_
    obtain ⟨o, J, hz⟩ := R.inv.table (tk := tk) ht I1 I2 I3 hx hge hrec htb
    have x1 : Ext Z φ (Z.put c' o) φ := ⟨Fz.le.put hz, List.prefix_refl _⟩
    have R1 := R.mono x1 J
    have hcd : ZCode (Z.put c' o) (.ref c') (q ++ "<lambda>") := by
      obtain ⟨c₂, oc, vs, tt, e2, hoc, hd, hv⟩ := hrec
      cases e2
      have := J.fz c' o (Fz.put_self ..)
      rw [hoc] at this; cases this
      exact ⟨c', _, vs, tt, rfl, Fz.put_self .., hd, hv⟩
    obtain ⟨R2, x2⟩ := R1.allocZ (tk := tk) (a := h'.objs.size) (fun b' o e => Heap.get?_push_of_some (kla_obj "<lambda>" (q ++ "<lambda>") p b sc [] ((B.mg "__name__").getD .none) c' ctv) e) (Nat.le_refl _) (Heap.get?_push_size _ rfl)
    exact ⟨_, _, σ, .lam p b sc, x1.trans x2, .lam (Fz.put_self ..) rfl ⟨rfl, rfl, rfl, rfl, rfl, rfl, rfl, rfl, hcd.mono x2.z⟩, R2, h⟩

end Mine
end
section
open PySem PySem.W PyProof.Rows
set_option Elab.async false
set_option linter.unusedVariables false
set_option maxRecDepth 100000
namespace Mine
variable {B : Base} {Z Z' : Fz} {φ φ' ψ : List Addr} {F : Frm} {σ : St} {Q : AV → St → Prop} {env : Env} {fr : List Ent} {s : Shared} {Qn : St → Prop} {Qr : AV → St → Prop}

/-! ### weakening -/
theorem weak_names {loc loc' : List (Str × AV)} (h : ∀ x av, get loc' x = some av → get loc x = some av) : Weak (frameE B Z φ env loc) (frameE B Z φ env loc') := by
  refine .cons (fun o ⟨es, ep, q1, q2, q3⟩ => ⟨es, ep, q1, q2, fun x av h1 h2 => q3 x av h1 (h x av h2)⟩) ?_
  generalize env.cells = cs
  induction cs with
  | nil => exact .nil
  | cons d r ih => exact .cons (fun o ⟨v, q1, q2⟩ => ⟨v, q1, fun av h2 => q2 av (h _ _ h2)⟩) ih
theorem Rel.names (R : Rel B Z φ env σ fr s) {loc' : List (Str × AV)} (h : ∀ x av, get loc' x = some av → get σ.loc x = some av) : Rel B Z φ env ⟨loc', σ.led⟩ fr s :=
  ⟨R.inv.weak ((weak_names h).append (Weak.refl _)), R.len⟩
inductive Wkn : St → St → Prop
  | refl (τ : St) : Wkn τ τ
  | cut {τ τ' τ'' : St} : Cut τ τ' → Wkn τ' τ'' → Wkn τ τ''
  | names {τ τ'' : St} {loc' : List (Str × AV)} : (∀ x av, get loc' x = some av → get τ.loc x = some av) → Wkn ⟨loc', τ.led⟩ τ'' → Wkn τ τ''
  | frz {τ : St} {τ'' : St} {i : Nat} {l : List AV} {loc' : List (Str × AV)} : τ.led[i]? = some (.list l) → (∀ x av, get loc' x = some av → ∃ a, get τ.loc x = some a ∧ (av = a ∨ av = sb1 i l a)) → Wkn ⟨loc', τ.led.set i .gone⟩ τ'' → Wkn τ τ''
  | frzD {τ : St} {τ'' : St} {i : Nat} {d : List (Int × AV)} {loc' : List (Str × AV)} : τ.led[i]? = some (.dict d) → (∀ x av, get loc' x = some av → ∃ a, get τ.loc x = some a ∧ (av = a ∨ av = sbd i d a)) → Wkn ⟨loc', τ.led.set i .gone⟩ τ'' → Wkn τ τ''
theorem Wkn.len {σ σ' : St} (h : Wkn σ σ') : σ'.led.length ≤ σ.led.length := by
  induction h with
  | refl => exact Nat.le_refl _
  | cut c _ ih => exact Nat.le_trans ih c.le
  | names _ _ ih => exact ih
  | frz _ _ _ ih => simpa using ih
  | frzD _ _ _ ih => simpa using ih
theorem Wkn.sound {σ σ' : St} (h : Wkn σ σ') : ∀ {Z φ s}, Rel B Z φ env σ fr s → ∃ Z' φ', Z.le Z' ∧ (∀ k, k ≤ σ'.led.length → φ'.take k = φ.take k) ∧ Rel B Z' φ' env σ' fr s := by
  induction h with
  | refl => intro Z φ s R; exact ⟨Z, φ, .refl _, fun _ _ => rfl, R⟩
  | cut c w ih =>
    intro Z φ s R
    obtain ⟨Z', φ', a, b, r⟩ := ih (R.cut c)
    refine ⟨Z', φ', a, fun k hk => ?_, r⟩
    rw [b k hk, List.take_take]; congr 1; have := w.len; exact ar101 hk this
  | names h w ih =>
    intro Z φ s R
    exact ih (R.names h)
  | frz h1 h2 w ih =>
    intro Z φ s R
    obtain ⟨Z1, x1, R1⟩ := R.frz h1 h2
    obtain ⟨Z', φ', a, b, r⟩ := ih R1
    exact ⟨Z', φ', x1.z.trans a, b, r⟩
  | frzD h1 h2 w ih =>
    intro Z φ s R
    obtain ⟨Z1, x1, R1⟩ := R.frzD h1 h2
    obtain ⟨Z', φ', a, b, r⟩ := ih R1
    exact ⟨Z', φ', x1.z.trans a, b, r⟩
inductive WExtI (B : Base) (Z0 : Fz) (φ0 : List Addr) (env : Env) (σ' : St) (fr : List Ent) (s : Shared) : Prop
  | mk : ∀ Z' φ', Ext Z0 φ0 Z' φ' → Rel B Z' φ' env σ' fr s → WExtI B Z0 φ0 env σ' fr s
theorem Wkn.ext {σ σ' : St} (h : Wkn σ σ') {Z0 Z φ0 φ s} (x : Ext Z0 φ0 Z φ) (R : Rel B Z φ env σ fr s) (hl : φ0.length ≤ σ'.led.length) : WExtI B Z0 φ0 env σ' fr s := by
  obtain ⟨Z', φ', a, b, r⟩ := h.sound R
  refine ⟨Z', φ', ⟨x.z.trans a, ?_⟩, r⟩
  obtain ⟨t, ht⟩ := x.p
  have e := b φ0.length hl
  rw [← ht] at e; simp at e
  exact e ▸ List.take_prefix _ _

/-- a state may be weakened ahead of a statement -/
theorem ss_wkn {sts σ'} (w : Wkn σ σ') (hl : σ'.led.length = σ.led.length) (h : WSs B F sts Qn Qr σ') : WSs B F sts Qn Qr σ := fun A env Z φ fr s hA hE R => by
  obtain ⟨Z', φ', x, R'⟩ := w.ext (.refl Z φ) R (by rw [hl]; exact Nat.le_of_eq R.len)
  exact wpAny_mono (h A env Z' φ' fr s hA hE R') (fun _ _ p => p.up x) fun _ _ e => e

/-! ### while -/
/-- where a while loop stands -/
inductive WJ (K : Nat) (S : Nat → St) (n : Nat) (σ1 : St) : Prop
  | mk : ∀ j, j ≤ K → n = K - j → σ1 = S j → WJ K S n σ1
/-- what a loop's turn is given -/
inductive AtI {α : Type} (l : List α) (k : Nat) (f : α → AV) (x : AV) : Prop
  | mk : ∀ p, l[k]? = some p → x = f p → AtI l k f x
theorem at_map {α : Type} {l : List α} {k : Nat} {f : α → AV} {x : AV} (h : (l.map f)[k]? = some x) : AtI l k f x := by
  rw [List.getElem?_map] at h
  cases e : l[k]? with
  | none => rw [e] at h; cases h
  | some q => rw [e] at h; cases h; exact ⟨q, e, rfl⟩
theorem map_at {α : Type} {l : List α} {k : Nat} {f : α → AV} {y : AV} {p : α} (h : l[k]? = some p) (hy : (l.map f)[k]? = some y) : y = f p := by
  rw [List.getElem?_map, h] at hy; cases hy; rfl
theorem s_while {t b pos} (J : Nat → St → Prop) (n₀ : Nat) (h0 : J n₀ σ)
    (turn : ∀ n σ1, J n σ1 → σ.led.length ≤ σ1.led.length → WB B F t (fun c σ2 => if c then WSs B F b (fun σ3 => ∃ m σ4, m < n ∧ Wkn σ3 σ4 ∧ σ.led.length ≤ σ4.led.length ∧ J m σ4) Qr σ2 else Qn σ2) σ1) : WS B F (.While t b [] pos) Qn Qr σ :=
  fun A env Z φ fr s hA hE R => by
  refine wpAny_While (codeAny_whileLoop (fun n s' => ∃ Z1 φ1 σ1, Ext Z φ Z1 φ1 ∧ Rel B Z1 φ1 env σ1 fr s' ∧ J n σ1 ∧ σ.led.length ≤ σ1.led.length) ?_ n₀ ⟨Z, φ, σ, .refl _ _, R, h0, Nat.le_refl _⟩)
  rintro n s1 ⟨Z1, φ1, σ1, x1, R1, hJ, hl⟩
  refine wpAny_mono (turn n σ1 hJ hl A env Z1 φ1 fr s1 hA hE R1) (fun c s2 ⟨Z2, φ2, σ2, x2, R2, h2⟩ => ?_) fun _ _ e => e.elim
  cases c with
  | false => exact wpAny_execs_nil ⟨Z2, φ2, σ2, x1.trans x2, R2, h2⟩
  | true =>
    refine wpAny_mono (h2 A env Z2 φ2 fr s2 hA hE R2) (fun f s3 ⟨Z3, φ3, σ3, x3, R3, h3⟩ => ?_) fun _ _ e => e.elim
    cases f with
    | next =>
      obtain ⟨m, σ4, hm, w, hl4, hJ4⟩ := h3
      obtain ⟨Z4, φ4, x4, R4⟩ := w.ext ((x1.trans x2).trans x3) R3 (by rw [R.len]; exact hl4)
      exact ⟨m, hm, Z4, φ4, σ4, x4, R4, hJ4, hl4⟩
    | ret v => exact ⟨Z3, φ3, σ3, (x1.trans x2).trans x3, R3, h3⟩
    | brk => exact h3.elim
    | cont => exact h3.elim

/-! ### targets -/
def WAs (B : Base) (F : Frm) (t : Expr) (a : AV) (Qn : St → Prop) (σ : St) : Prop :=
  ∀ A env Z φ fr s v, Rm F.ht A → EnvOk F env → RelV B Z φ v a → Rel B Z φ env σ fr s → wpAny (model B.prog B.w) A (assign t env v) (fun _ s' => PostN B env Z φ fr Qn s') NoE s
theorem a_name {x pos a} (h : WSt B F x a Qn σ) : WAs B F (.Name x pos) a Qn σ := fun A env Z φ fr s v hA hE hv R => wpAny_assign_Name (h A env Z φ fr s v hA hE hv R)
def WAo (B : Base) (F : Frm) : List Expr → List AV → (St → Prop) → St → Prop
  | [], [], Qn, σ => Qn σ
  | t :: ts, a :: as, Qn, σ => WAs B F t a (fun σ1 => WAo B F ts as Qn σ1) σ
  | _, _, _, _ => False
theorem wao_sound {ts : List Expr} : ∀ {as : List AV} {Qn : St → Prop} {σ : St}, WAo B F ts as Qn σ → ∀ {A env Z φ fr s vs}, Rm F.ht A → EnvOk F env → RelVs B Z φ vs as → Rel B Z φ env σ fr s →
    wpAny (model B.prog B.w) A (assignInOrder (ts.map fun t => assign t env) vs) (fun _ s' => PostN B env Z φ fr Qn s') NoE s := by
  induction ts with
  | nil =>
    intro as Qn σ h A env Z φ fr s vs hA hE hv R
    cases as with
    | nil => obtain rfl := hv.nil_i; exact wpAny_assignInOrder_none ⟨Z, φ, σ, .refl _ _, R, h⟩
    | cons => exact h.elim
  | cons t ts ih =>
    intro as Qn σ h A env Z φ fr s vs hA hE hv R
    cases as with
    | nil => exact h.elim
    | cons a as =>
      obtain ⟨_, _, rfl, h1, h2⟩ := hv.cons_i
      refine wpAny_assignInOrder_more (wpAny_mono (h A env Z φ fr s _ hA hE h1 R) (fun _ s1 ⟨Z1, φ1, σ1, x1, R1, q1⟩ => ?_) fun _ _ e => e)
      exact wpAny_mono (ih q1 hA hE (h2.mono x1) R1) (fun _ s2 ⟨Z2, φ2, σ2, x2, R2, q2⟩ => ⟨Z2, φ2, σ2, x1.trans x2, R2, q2⟩) fun _ _ e => e
theorem a_tuple {ts k pos as} (h : WAo B F ts as Qn σ) (hl : ts.length = as.length) (g : ∀ env, (assignEach ts env).map (·.2) = ts.map fun t => assign t env) (g2 : ∀ env, (assignEach ts env).findIdx? (·.1) = none) :
    WAs B F (.Tuple ts k pos) (.tup as) Qn σ := fun A env Z φ fr s v hA hE hv R => by
  obtain ⟨a, o, items, n, rfl, q1, q2, q3, q4⟩ := hv.tup_i
  have ht : s.heap.IsTuple a items := ⟨o, R.inv.fz _ _ q1, q2, n, q3⟩
  refine wpAny_assign_Tuple hA.hd ht ?_ (g2 env) fun h' hx => ?_
  · have e := congrArg List.length (g env)
    simp only [List.length_map] at e
    rw [e, hl]; exact (lsize q4).symm
  · rw [g env]
    have R' : Rel B Z φ env σ fr { s with heap := h' } := R.keeps (tk := s.toks) fun b o e => hx b o (Nat.ne_of_lt (Heap.lt_size e)) e
    exact wao_sound h hA hE q4 R'

/-! ### for -/
/-- the entry of an iterator turns -/
theorem Rel.iter {I : Addr} {p p' : Obj → Prop} (R : Rel B Z φ env σ ((I, p) :: fr) s) {h' : Heap} {tk : Nat} {o' : Obj} (hx : Heap.ExtBut I s.heap h') (ho : h'.get? I = some o') (hp : p' o') : Rel B Z φ env σ ((I, p') :: fr) { s with heap := h', toks := tk } := by
  have J := R.inv.upd (tk := tk) (E1 := frameE B Z φ env σ.loc ++ ledE B Z φ σ.led) (E2 := fr) (a := I) (p := p) (p' := p') (by simp) hx ho hp
  exact ⟨by simpa using J, R.len⟩
theorem Inv.updD {E1 E2 : List Ent} {a : Addr} {p : Obj → Prop} (I : Inv B Z (E1 ++ (a, p) :: E2) s) {h' : Heap} {tk : Nat} (hx : Heap.ExtBut a s.heap h') : Inv B Z (E1 ++ E2) { s with heap := h', toks := tk } := by
  have hz : Z a = Option.none := I.dj (a, p) (by simp)
  have hi : B.H.objs.size ≤ a := I.hi (a, p) (by simp)
  have nd := I.nd
  have mem : ∀ q : Ent, q ∈ E1 ++ E2 → q ∈ E1 ++ (a, p) :: E2 := fun q hq => by
    simp only [List.mem_append, List.mem_cons] at hq ⊢
    rcases hq with h | h
    · exact .inl h
    · exact .inr (.inr h)
  have zne : ∀ b o, Z b = some o → b ≠ a := fun b o e q => by subst q; rw [hz] at e; cases e
  have ne : ∀ q : Ent, q ∈ E1 ++ E2 → q.1 ≠ a := fun q hq e => by
    simp only [List.map_append, List.map_cons] at nd
    rw [List.nodup_append] at nd
    rcases List.mem_append.mp hq with h | h
    · exact nd.2.2 a (e ▸ List.mem_map_of_mem h) a (by exact .head _) rfl
    · exact (List.nodup_cons.mp nd.2.1).1 (e ▸ List.mem_map_of_mem h)
  refine { fz := fun b o e => hx _ _ (zne b o e) (I.fz b o e), base := I.base, ent := fun q hq => ?_, nd := ?_, dj := fun q hq => I.dj q (mem q hq), hi := fun q hq => I.hi q (mem q hq), tab := fun t ht => ?_, tz := I.tz, tlo := I.tlo, old := oldK_ext I.old hi hx, gens := I.gens, os := I.os }
  · obtain ⟨o, e1, e2⟩ := I.ent q (mem q hq); exact ⟨o, hx _ _ (ne q hq) e1, e2⟩
  · refine List.Nodup.sublist ?_ nd
    exact (List.Sublist.append (List.Sublist.refl _) (List.sublist_cons_self _ _)).map _
  · obtain ⟨ps, x, y, z⟩ := I.tab t ht
    have := I.tlo t ht
    have n1 : t.c ≠ a := Nat.ne_of_lt (Nat.lt_of_lt_of_le this.1 hi)
    have n2 : t.P ≠ a := Nat.ne_of_lt (Nat.lt_of_lt_of_le this.2 hi)
    exact ⟨ps, x.extBut hx n1 n2, y.extBut hx n1 n2, z⟩
theorem Rel.iterDone {I : Addr} {p : Obj → Prop} (R : Rel B Z φ env σ ((I, p) :: fr) s) {h' : Heap} {tk : Nat} (hx : Heap.ExtBut I s.heap h') : Rel B Z φ env σ fr { s with heap := h', toks := tk } := by
  have J := Inv.updD (tk := tk) (E1 := frameE B Z φ env σ.loc ++ ledE B Z φ σ.led) (E2 := fr) (a := I) (p := p) (by simpa using R.inv) hx
  exact ⟨by simpa using J, R.len⟩
theorem Rel.iterNew (R : Rel B Z φ env σ fr s) {p : Obj → Prop} {o : Obj} (hp : p o) (hf : o.isFreed = false) : Rel B Z φ env σ ((s.heap.objs.size, p) :: fr) { s with heap := s.heap.push o } := by
  have J := R.inv.new (tk := s.toks) (p := p) (fun b o' e => Heap.get?_push_of_some o e) (Nat.le_refl _) (Heap.get?_push_size _ hf) hp
  refine ⟨J.perm ?_, R.len⟩
  rw [← List.append_assoc, ← List.append_assoc]
  exact List.perm_middle.symm

/-- an iterator: what it gives, turn by turn -/
inductive NxtP (B : Base) (Z1 : Fz) (φ1 : List Addr) (env : Env) (σ1 : St) (fr' : List Ent) (items : List AV) (k : Nat) (r : Option Value) (s2 : Shared) : Prop
  | mk (v x) : r = some v → items[k]? = some x → RelV B Z1 φ1 v x → Rel B Z1 φ1 env σ1 fr' s2 → NxtP B Z1 φ1 env σ1 fr' items k r s2
structure IterOk (B : Base) (Z : Fz) (φ : List Addr) (I : Addr) (items : List AV) (ok : List MO → Prop) (ip : Nat → Obj → Prop) : Prop where
  nxt : ∀ {A env fr Z1 φ1 σ1 s1 k}, A.handled = none → Ext Z φ Z1 φ1 → ok σ1.led → k < items.length → Rel B Z1 φ1 env σ1 ((I, ip k) :: fr) s1 →
    wpAny (model B.prog B.w) A (pyNext (.ref I)) (fun r s2 => NxtP B Z1 φ1 env σ1 ((I, ip (k + 1)) :: fr) items k r s2) NoE s1
  fin : ∀ {A env fr Z1 φ1 σ1 s1}, A.handled = none → Ext Z φ Z1 φ1 → ok σ1.led → Rel B Z1 φ1 env σ1 ((I, ip items.length) :: fr) s1 → wpAny (model B.prog B.w) A (pyNext (.ref I)) (fun r s2 => r = none ∧ Rel B Z1 φ1 env σ1 fr s2) NoE s1
  go : ∀ {A s1 k ts kk pp v}, (∃ o, s1.heap.get? I = some o ∧ ip k o) → ∀ Q : Unit → Shared → Prop, Q () s1 → wpAny (model B.prog B.w) A (letOwnedTupleGo (.Tuple ts kk pp) (.ref I) v) Q NoE s1
  self : ∀ {A s1 k E} {Q : Value → Shared → Prop}, (∃ o, s1.heap.get? I = some o ∧ ip k o) → Q (.ref I) s1 → wpAny (model B.prog B.w) A (pyIter (.ref I)) Q E s1
inductive ItP (B : Base) (Z : Fz) (φ : List Addr) (env : Env) (σ : St) (fr : List Ent) (items : List AV) (ok : List MO → Prop) (it : Value) (s' : Shared) : Prop
  | mk (I ip) : it = .ref I → Rel B Z φ env σ ((I, ip 0) :: fr) s' → IterOk B Z φ I items ok ip → ItP B Z φ env σ fr items ok it s'
def WIt (B : Base) (a : AV) (items : List AV) (ok : List MO → Prop) : Prop :=
  ∀ A env Z φ fr σ s v, A.handled = none → RelV B Z φ v a → ok σ.led → Rel B Z φ env σ fr s →
    wpAny (model B.prog B.w) A (pyIter v) (fun it s' => ItP B Z φ env σ fr items ok it s') NoE s

theorem go_tuple {A : Around} {I : Addr} {ts kk pp} {v : Value} {o : Obj} {T : String} {vs : Array Value} (ho : s.heap.get? I = some o) (hc : o.cls = .type T) (hd : o.data = .fields vs)
    (hT : (["enumerate", "zip", "dict_itemiterator", "dict_reverseitemiterator", "odict_iterator", "itertools.zip_longest", "itertools.pairwise"].contains T) = false) (Q : Unit → Shared → Prop) (hQ : Q () s) :
    wpAny (model B.prog B.w) A (letOwnedTupleGo (.Tuple ts kk pp) (.ref I) v) Q NoE s := by
  cases v with
  | ref a =>
    unfold letOwnedTupleGo
    refine wpAny_bind (wpAny_load ho ?_)
    rw [hc, hd]
    simp only [hT, Bool.false_and]
    exact wpAny_pure hQ
  | _ => exact wpAny_pure hQ

def listIt (ax : Addr) (k : Nat) (o : Obj) : Prop := o.cls = .type "list_iterator" ∧ o.data = .fields #[.ref ax, .int k 0]
theorem it_list {a items} : WIt B a items (fun led => LstOf led a items) := fun A env Z φ fr σ s v hA rv hl R => by
  obtain ⟨p, vals, n, rfl, hL, rl⟩ := R.lst hl rv
  refine wpAny_pyIter_list hL.isList ?_
  have R2 := R.iterNew (p := listIt p 0) (o := { cls := .type "list_iterator", data := .fields #[.ref p, .int 0 0] }) ⟨rfl, rfl⟩ rfl
  refine ⟨_, listIt p, rfl, R2, ⟨?_, ?_, ?_, ?_⟩⟩
  · intro A env fr Z2 φ2 σ2 s2 k hA x2 hl2 hk R3
    obtain ⟨p', vals', n', hp, hL', rl'⟩ := R3.lst hl2 (rv.mono x2)
    cases hp
    obtain ⟨o, ho, hp⟩ := R3.inv.ent (s.heap.objs.size, listIt p k) (by simp)
    obtain ⟨y, e1, e2⟩ := rl'.get (List.getElem?_eq_getElem hk)
    refine wpAny_pyNext_list_item ⟨o, ho, hp⟩ hL'.isList (by simpa using e1) fun h' ⟨o', ho', hp'⟩ hsb => ⟨y, _, rfl, List.getElem?_eq_getElem hk, e2, ?_⟩
    exact R3.iter (tk := s2.toks) hsb.extBut ho' hp'
  · intro A env fr Z2 φ2 σ2 s2 hA x2 hl2 R3
    obtain ⟨p', vals', n', hp, hL', rl'⟩ := R3.lst hl2 (rv.mono x2)
    cases hp
    obtain ⟨o, ho, hp⟩ := R3.inv.ent (s.heap.objs.size, listIt p items.length) (by simp)
    refine wpAny_pyNext_list_end hA ⟨o, ho, hp⟩ hL'.isList (by rw [Array.getElem?_eq_none_iff, lsize rl']; exact Nat.le_refl _) fun h' hx => ⟨rfl, ?_⟩
    exact R3.iterDone (tk := s2.toks) hx
  · intro A s1 k ts kk pp v ⟨o, ho, hc, hd⟩ Q hQ
    exact go_tuple ho hc hd (by decide +kernel) Q hQ
  · intro A s1 k E Q ⟨o, ho, hp⟩ hQ
    exact wpAny_pyIter_listiter ⟨o, ho, hp⟩ hQ

inductive ForI (B : Base) (Z : Fz) (φ : List Addr) (env : Env) (σ : St) (I : Addr) (ip : Nat → Obj → Prop) (J : Nat → St → Prop) (fr : List Ent) (N n : Nat) (s' : Shared) : Prop
  | mk : ∀ k Z1 φ1 σ1, n + k = N + 1 → k ≤ N → Ext Z φ Z1 φ1 → Rel B Z1 φ1 env σ1 ((I, ip k) :: fr) s' → J k σ1 → σ.led.length ≤ σ1.led.length → ForI B Z φ env σ I ip J fr N n s'
theorem for_core {target : Expr} {body : List Stmt} {A : Around} {I : Addr} {items : List AV} {ok : List MO → Prop} (hA : Rm F.ht A) (hE : EnvOk F env) (ip : Nat → Obj → Prop) (J : Nat → St → Prop) (hlen : φ.length = σ.led.length)
    (it : IterOk B Z φ I items ok ip) (hok : ∀ k σ1, J k σ1 → ok σ1.led) (htg : (∀ it v, letOwnedTupleGo target it v = pure ()) ∨ ∃ ts k p, target = .Tuple ts k p)
    (h0 : J 0 σ) (turn : ∀ k σ1 x, J k σ1 → σ.led.length ≤ σ1.led.length → items[k]? = some x → WAs B F target x (fun σ2 => WSs B F body (fun σ3 => ∃ σ4, Wkn σ3 σ4 ∧ σ.led.length ≤ σ4.led.length ∧ J (k + 1) σ4) Qr σ2) σ1)
    (done : ∀ σ1, J items.length σ1 → σ.led.length ≤ σ1.led.length → Qn σ1) (R : Rel B Z φ env σ ((I, ip 0) :: fr) s) :
    codeAny (model B.prog B.w) A (.forLoop target (.ref I) body [] env) (fun r s' => match r with | .ok f => PostF B env Z φ fr Qn Qr f s' | .error e => cameBackBy (model B.prog B.w) A env NoE e s') s := by
  refine codeAny_forLoop_any (fun n s' => ForI B Z φ env σ I ip J fr items.length n s') ?_ (items.length + 1)
    ⟨0, Z, φ, σ, rfl, Nat.zero_le _, .refl _ _, R, h0, Nat.le_refl _⟩
  rintro n s1 ⟨k, Z1, φ1, σ1, hn, hk, x1, R1, hJ, hl⟩
  by_cases hlt : k < items.length
  · refine wpAny_mono (it.nxt hA.hd x1 (hok _ _ hJ) hlt R1) (fun r s2 ⟨v, x, hr, hx, rv, R2⟩ => ?_) fun _ _ e => e.elim
    subst hr
    obtain ⟨o, ho, hp⟩ := R2.inv.ent (I, ip (k + 1)) (by simp)
    have go : wpAny (model B.prog B.w) A (letOwnedTupleGo target (.ref I) v) (fun _ s2' => s2' = s2) NoE s2 := by
      rcases htg with ht | ⟨ts, kk, pp, rfl⟩
      · rw [ht]; exact wpAny_pure rfl
      · exact it.go ⟨o, ho, hp⟩ _ rfl
    refine wpAny_mono go (fun _ s2' e => ?_) fun _ _ e => e.elim
    subst e
    refine wpAny_mono (turn k σ1 x hJ hl hx A env Z1 φ1 _ _ v hA hE rv R2) (fun _ s3 ⟨Z3, φ3, σ3, x3, R3, h3⟩ => ?_) fun _ _ e => e.elim
    refine wpAny_mono (h3 A env Z3 φ3 _ s3 hA hE R3) (fun f s4 ⟨Z4, φ4, σ4, x4, R4, h4⟩ => ?_) fun _ _ e => e.elim
    cases f with
    | next =>
      obtain ⟨σ5, w, hl5, hJ5⟩ := h4
      obtain ⟨Z5, φ5, x5, R5⟩ := w.ext ((x1.trans x3).trans x4) R4 (by rw [hlen]; exact hl5)
      exact ⟨n - 1, (ar105 hn hk), k + 1, Z5, φ5, σ5, (ar106 hn hk), (ar37 hlt), x5, R5, hJ5, hl5⟩
    | ret v =>
      exact ⟨Z4, φ4, σ4, (x1.trans x3).trans x4, ⟨R4.inv.drop (List.Sublist.append (List.Sublist.refl _) (List.Sublist.append (List.Sublist.refl _) (List.sublist_cons_self _ _))), R4.len⟩, h4⟩
    | brk => exact h4.elim
    | cont => exact h4.elim
  · obtain rfl : k = items.length := ar107 hk hlt
    refine wpAny_mono (it.fin hA.hd x1 (hok _ _ hJ) R1) (fun r s2 ⟨hr, R2⟩ => ?_) fun _ _ e => e.elim
    subst hr
    exact wpAny_execs_nil ⟨Z1, φ1, σ1, x1, R2, done σ1 hJ hl⟩

inductive ForP (B : Base) (F : Frm) (target : Expr) (body : List Stmt) (Qn : St → Prop) (Qr : AV → St → Prop) (a : AV) (σ0 : St) : Prop
  | mk (items : List AV) (ok : List MO → Prop) (J : Nat → St → Prop) : WIt B a items ok → J 0 σ0 → (∀ k σ1, J k σ1 → ok σ1.led) →
      (∀ k σ1 x, J k σ1 → σ0.led.length ≤ σ1.led.length → items[k]? = some x → WAs B F target x (fun σ2 => WSs B F body (fun σ3 => ∃ σ4, Wkn σ3 σ4 ∧ σ0.led.length ≤ σ4.led.length ∧ J (k + 1) σ4) Qr σ2) σ1) →
      (∀ σ1, J items.length σ1 → σ0.led.length ≤ σ1.led.length → Qn σ1) → ForP B F target body Qn Qr a σ0
theorem s_for {target e body pos}
    (h : WE B F e (fun a σ0 => ForP B F target body Qn Qr a σ0) σ)
    (hs : ∀ env x, foldedSetIterable e env x = pure x) (ht : (∀ it v, letOwnedTupleGo target it v = pure ()) ∨ ∃ ts k p, target = .Tuple ts k p) : WS B F (.For target e body [] pos) Qn Qr σ := fun A env Z φ fr s hA hE R => by
  refine wpAny_For (wpAny_mono (h A env Z φ fr s hA hE R) (fun v s1 ⟨Z1, φ1, σ1, a, x1, rv, R1, items, ok, J, it, hJ, hok, turn, done⟩ => ?_) fun _ _ e => e) (hs env)
  refine wpAny_mono (it A env Z1 φ1 fr σ1 s1 v hA.hd rv (hok _ _ hJ) R1) (fun iv s2 ⟨I, ip, hi, R2, io⟩ => ?_) fun _ _ e => e
  subst hi
  refine codeAny_mono (for_core hA hE ip J R1.len io hok ht hJ turn done R2) (fun r s' hr => ?_)
  cases r with
  | ok f => exact PostF.up hr x1
  | error e => exact hr

/-! other sources -/
def chars (x : Str) : List AV := x.cps.toList.map fun c => .str ⟨#[c]⟩
def strIt (T : String) (x : Str) (t : Tok) (k : Nat) (o : Obj) : Prop := o.cls = .type T ∧ o.data = .fields #[.str x t, .int k 0]
theorem chars_get {x : Str} {k : Nat} (h : k < (chars x).length) : ∃ c, x.cps[k]? = some c ∧ (chars x)[k]? = some (.str ⟨#[c]⟩) := by
  have h' : k < x.cps.size := by simpa [chars] using h
  exact ⟨x.cps[k], by simp [h'], by simp [chars, h']⟩
theorem it_str {x : Str} : WIt B (.str x) (chars x) (fun _ => True) := fun A env Z φ fr σ s v hA rv _ R => by
  obtain ⟨t, rfl⟩ := rv.str_i
  have hsz : (chars x).length = x.cps.size := by simp [chars]
  cases ha : x.cps.all (· < 128)
  · refine wpAny_pyIter_wide ha ?_
    have R2 := R.iterNew (p := strIt "str_iterator" x t 0) (o := { cls := .type "str_iterator", data := .fields #[.str x t, .int 0 0] }) ⟨rfl, rfl⟩ rfl
    refine ⟨_, strIt "str_iterator" x t, rfl, R2, ⟨?_, ?_, ?_, ?_⟩⟩
    · intro A env fr Z2 φ2 σ2 s2 k hA x2 _ hk R3
      obtain ⟨o, ho, hp⟩ := R3.inv.ent (s.heap.objs.size, strIt "str_iterator" x t k) (by simp)
      obtain ⟨c, e1, e2⟩ := chars_get hk
      exact wpAny_pyNext_wide_item ⟨o, ho, hp⟩ e1 fun h' ⟨o', ho', hp'⟩ hsb => ⟨_, _, rfl, e2, .str .., R3.iter (tk := s2.toks + 1) hsb.extBut ho' hp'⟩
    · intro A env fr Z2 φ2 σ2 s2 hA x2 _ R3
      obtain ⟨o, ho, hp⟩ := R3.inv.ent (s.heap.objs.size, strIt "str_iterator" x t (chars x).length) (by simp)
      exact wpAny_pyNext_wide_end hA ⟨o, ho, hp⟩ (by rw [Array.getElem?_eq_none_iff, hsz]; exact Nat.le_refl _) fun h' hx => ⟨rfl, R3.iterDone (tk := s2.toks) hx⟩
    · intro A s1 k ts kk pp v ⟨o, ho, hc, hd⟩ Q hQ
      exact go_tuple ho hc hd (by decide) Q hQ
    · intro A s1 k E Q ⟨o, ho, hp⟩ hQ
      exact wpAny_pyIter_striter_wide ⟨o, ho, hp⟩ hQ
  · refine wpAny_pyIter_ascii ha ?_
    have R2 := R.iterNew (p := strIt "str_ascii_iterator" x t 0) (o := { cls := .type "str_ascii_iterator", data := .fields #[.str x t, .int 0 0] }) ⟨rfl, rfl⟩ rfl
    refine ⟨_, strIt "str_ascii_iterator" x t, rfl, R2, ⟨?_, ?_, ?_, ?_⟩⟩
    · intro A env fr Z2 φ2 σ2 s2 k hA x2 _ hk R3
      obtain ⟨o, ho, hp⟩ := R3.inv.ent (s.heap.objs.size, strIt "str_ascii_iterator" x t k) (by simp)
      obtain ⟨c, e1, e2⟩ := chars_get hk
      exact wpAny_pyNext_ascii_item ⟨o, ho, hp⟩ e1 fun h' ⟨o', ho', hp'⟩ hsb => ⟨_, _, rfl, e2, .str .., R3.iter (tk := s2.toks + 1) hsb.extBut ho' hp'⟩
    · intro A env fr Z2 φ2 σ2 s2 hA x2 _ R3
      obtain ⟨o, ho, hp⟩ := R3.inv.ent (s.heap.objs.size, strIt "str_ascii_iterator" x t (chars x).length) (by simp)
      exact wpAny_pyNext_ascii_end hA ⟨o, ho, hp⟩ (by rw [Array.getElem?_eq_none_iff, hsz]; exact Nat.le_refl _) fun h' hx => ⟨rfl, R3.iterDone (tk := s2.toks) hx⟩
    · intro A s1 k ts kk pp v ⟨o, ho, hc, hd⟩ Q hQ
      exact go_tuple ho hc hd (by decide) Q hQ
    · intro A s1 k E Q ⟨o, ho, hp⟩ hQ
      exact wpAny_pyIter_striter_ascii ⟨o, ho, hp⟩ hQ

def rngIt (n : Nat) (k : Nat) (o : Obj) : Prop := o = { cls := .type "range_iterator", dict := none, data := .fields #[rawInt k, rawInt ((n : Int) - k), rawInt 1], slots := #[] }
def upTo (n : Nat) : List AV := (List.range n).map fun i => .int (i : Nat)
theorem it_rng {n : Nat} (hn : n ≤ 1000000) : WIt B (.rng n) (upTo n) (fun _ => True) := fun A env Z φ fr σ s v hA rv _ R => by
  obtain ⟨a, t, u, v, rfl, hz⟩ := rv.rng_i
  have hsz : (upTo n).length = n := by simp [upTo]
  have hr : Builtin.Range.rangeSize 0 (n : Int) 1 = n := by
    unfold Builtin.Range.rangeSize; split <;> split <;> omega
  have hf : ∀ i : Int, 0 ≤ i → i ≤ 1000001 → Builtin.Range.rangeFitsLong i = true := fun i h0 h1 => by unfold Builtin.Range.rangeFitsLong; simp; exact ar500 h0 h1
  have hsm : Builtin.Range.small 0 (n : Int) 1 = true := by
    unfold Builtin.Range.small; rw [hr]
    simp [hf 0 (ar501) (ar502), hf 1 (ar503) (ar504), hf n (ar0) (ar505 hn)]
  refine wpAny_pyIter_range (R.inv.fz _ _ hz) hsm ?_
  rw [hr]
  have R2 := R.iterNew (p := rngIt n 0) (o := { cls := .type "range_iterator", data := .fields #[rawInt 0, rawInt n, rawInt 1] }) (by simp [rngIt]) rfl
  refine ⟨_, rngIt n, rfl, R2, ⟨?_, ?_, ?_, ?_⟩⟩
  · intro A env fr Z2 φ2 σ2 s2 k hA x2 _ hk R3
    rw [hsz] at hk
    obtain ⟨o, ho, hp⟩ := R3.inv.ent (s.heap.objs.size, rngIt n k) (by simp)
    subst hp
    refine wpAny_pyNext_range_item ho (ar506 hk) fun h' ho' hsb => ⟨_, _, rfl, by simp [upTo, hk], .int .., R3.iter (tk := s2.toks + 1) hsb.extBut ho' ?_⟩
    have e1 : ((k + 1 : Nat) : Int) = (k : Int) + 1 := by push_cast; rfl
    have e2 : (n : Int) - ((k : Int) + 1) = (n : Int) - k - 1 := ar507
    unfold rngIt; rw [e1, e2]
  · intro A env fr Z2 φ2 σ2 s2 hA x2 _ R3
    rw [hsz] at R3
    obtain ⟨o, ho, hp⟩ := R3.inv.ent (s.heap.objs.size, rngIt n n) (by simp)
    subst hp
    exact wpAny_pyNext_range_end hA ho (ar508) fun h' hx => ⟨rfl, R3.iterDone (tk := s2.toks) hx⟩
  · intro A s1 k ts kk pp v ⟨o, ho, hp⟩ Q hQ
    subst hp
    exact go_tuple ho rfl rfl (by decide) Q hQ
  · intro A s1 k E Q ⟨o, ho, hp⟩ hQ
    subst hp
    exact wpAny_pyIter_rangeiter ho hQ

def keyIt (d : Addr) (n ep k : Nat) (o : Obj) : Prop := o.cls = .type "dict_keyiterator" ∧ o.data = .fields #[.ref d, .int k 0, .int n 0, .int ep 0]
theorem it_dict {ks : List Int} {l : List AV} : WIt B (.dct ks l) (ks.map fun k => .int k) (fun _ => True) := fun A env Z φ fr σ s v hA rv _ R => by
  obtain ⟨a, o, kvs, rfl, hz, hd, hsm, hks, hr⟩ := rv.dct_i
  obtain ⟨ep, hd1⟩ := (Heap.dictOf_iff.mpr ⟨o, R.inv.fz _ _ hz, hd⟩ : s.heap.DictOf (intKind B.prog B.w) a kvs).dictAt
  have hlen : kvs.length = (ks.map fun k => AV.int k).length := by rw [← hks]; simp
  have hdAt : ∀ {E s2 Z2}, Z.le Z2 → Inv B Z2 E s2 → s2.heap.DictAt (intKind B.prog B.w) a kvs ep := fun hle I => by
    obtain ⟨o', es, ho', r⟩ := hd1
    have e := R.inv.fz _ _ hz
    rw [e] at ho'; cases ho'
    exact ⟨o, es, I.fz _ _ (hle _ _ hz), r⟩
  refine wpAny_pyIter_dict hsm hd1 ?_
  have R2 := R.iterNew (p := keyIt a kvs.length ep 0) (o := { cls := .type "dict_keyiterator", data := .fields #[.ref a, .int 0 0, .int kvs.length 0, .int ep 0] }) ⟨rfl, rfl⟩ rfl
  refine ⟨_, keyIt a kvs.length ep, rfl, R2, ⟨?_, ?_, ?_, ?_⟩⟩
  · intro A env fr Z2 φ2 σ2 s2 k hA x2 _ hk R3
    obtain ⟨o, ho, hp⟩ := R3.inv.ent (s.heap.objs.size, keyIt a kvs.length ep k) (by simp)
    have hk' : k < kvs.length := by rw [hlen]; exact hk
    refine wpAny_pyNext_dict_item (k := kvs[k].1) (v := kvs[k].2) ⟨o, ho, hp⟩ (hdAt x2.z R3.inv) (by simp [hk']) fun key h' hkey ⟨o', ho', hp'⟩ hsb => ?_
    refine ⟨key, .int kvs[k].1, rfl, ?_, ?_, R3.iter (tk := s2.toks) hsb.extBut ho' hp'⟩
    · rw [← hks]; simp [hk']
    · obtain ⟨t, rfl⟩ := Value.isInt_shape hkey; exact .int ..
  · intro A env fr Z2 φ2 σ2 s2 hA x2 _ R3
    rw [← hlen] at R3
    obtain ⟨o, ho, hp⟩ := R3.inv.ent (s.heap.objs.size, keyIt a kvs.length ep kvs.length) (by simp)
    exact wpAny_pyNext_dict_end hA ⟨o, ho, hp⟩ (hdAt x2.z R3.inv) (by simp) fun h' hx => ⟨rfl, R3.iterDone (tk := s2.toks) hx⟩
  · intro A s1 k ts kk pp v ⟨o, ho, hc, hd⟩ Q hQ
    exact go_tuple ho hc hd (by decide) Q hQ
  · intro A s1 k E Q ⟨o, ho, hp⟩ hQ
    exact wpAny_pyIter_keyiter ⟨o, ho, hp⟩ hQ

end Mine
end
section
open PySem PySem.W PyProof.Rows
set_option Elab.async false
set_option linter.unusedVariables false
set_option maxRecDepth 100000
namespace Mine
variable {B : Base} {Z Z' : Fz} {φ φ' ψ : List Addr} {F : Frm} {σ : St} {Q : AV → St → Prop} {env : Env} {fr : List Ent} {s : Shared} {Qn : St → Prop} {Qr : AV → St → Prop}

theorem compLoop_any {M : Program} {w : World} {A : Around} {R : Result → Shared → Prop} {elt target iter : Expr} {scope : Scope} {pos : Pos} {it acc : Value} {cenv : Env} (J : Nat → Shared → Prop)
    (turn : ∀ n s, J n s → wpAny (model M w) A (pyNext it) (fun r s1 => match r with
      | none => R (.ok .next) s1
      | some v => wpAny (model M w) A (letOwnedTupleGo target it v) (fun _ s1' => wpAny (model M w) A (assign target cenv v) (fun _ s2 => wpAny (model M w) A (eval elt cenv) (fun x s4 =>
          wpAny (model M w) A (call (.builtin "list.append") [acc, x]) (fun _ s5 => ∃ m, m < n ∧ J m s5) NoE s4) NoE s2) NoE s1') NoE s1) NoE s)
    (n : Nat) {s : Shared} (h : J n s) : codeAny (model M w) A (.compLoop (.ListComp elt [⟨target, iter, [], 0⟩] scope pos) 0 it acc cenv) R s := by
  refine codeAny_loop rfl J (fun n s hI => ?_) n h
  show wpAny _ A ((compTurn (.ListComp elt [⟨target, iter, [], 0⟩] scope pos) 0 it acc cenv).onRaise (fun x => do noteFrame x cenv; theTreesLotGoes x)) _ _ s
  refine wpAny_noted ?_
  rw [compTurn_list]
  refine wpAny_bind (wpAny_standAt (wpAny_bind (wpAny_mono (turn n s hI) (fun r s₁ h₁ => ?_) fun _ _ h' => h'.elim)))
  cases r with
  | none => exact wpAny_pure h₁
  | some v =>
    refine wpAny_bind (wpAny_mono h₁ (fun _ s1' h1' => ?_) fun _ _ h' => h'.elim)
    refine wpAny_bind (wpAny_mono h1' (fun _ s₂ h₂ => ?_) fun _ _ h' => h'.elim)
    refine wpAny_bind (wpAny_pure ?_)
    refine wpAny_bind (wpAny_bind (wpAny_mono h₂ (fun x s₄ h₄ => wpAny_bind (wpAny_mono h₄ (fun _ s₅ h₅ => wpAny_pure (wpAny_pure ⟨rfl, h₅⟩)) fun _ _ h' => h'.elim)) fun _ _ h' => h'.elim))

/-- what a comprehension's parts must show -/
structure CompOk (B : Base) (F F' : Frm) (cm : Bool) (target elt : Expr) (a : AV) (σ1 : St) (ys : List AV) (items : List AV) (ok : List MO → Prop) (loc0 : List (Str × AV)) : Prop where
  it : WIt B a items ok
  ok : ok σ1.led
  len : ys.length = items.length
  small : items.length ≤ 1000000
  cell : ∀ x av, get loc0 x = some av → F.sc.names.lookup x = some .cell ∧ get σ1.loc x = some av
  none : cm = false → loc0 = []
  all : cm = true → ∀ x av, F.sc.names.lookup x = some .cell → get σ1.loc x = some av → get loc0 x = some av
  turn : ∀ (k : Nat) x y, items[k]? = some x → ys[k]? = some y → WAs B F' target x (fun σ2 => WE B F' elt (fun y' σ3 => y' = y ∧ σ3.led = σ1.led ∧ ∀ z av, get loc0 z = some av → get σ3.loc z = some av) σ2) ⟨loc0, σ1.led⟩

/-- the comprehension's frame -/
structure CompFrm (F F' : Frm) (cm : Bool) (scope : Scope) (target : Expr) : Prop where
  clos : ∀ env, EnvOk F env → closureFor scope env = pure (if cm then env.cells else [])
  rel : ∀ env, env.scope = F.sc → relabel scope env = F'.sc
  kind : scope.kind = .function
  kind' : F'.sc.kind = .function
  code : F'.code = none
  ht : F'.ht = F.ht
  nocell : ∀ y ∈ scope.names, y.2 ≠ .cell
  names : ∀ x ∈ scope.names, x.2 = .local → scope.names.lookup x.1 = some .local
  c1 : ∀ x, F'.sc.names.lookup x = some .cell → cm = true ∧ F.sc.names.lookup x = some .cell
  c2 : cm = true → ∀ x, F.sc.names.lookup x = some .cell → F'.sc.names.lookup x = some .cell
  c3 : (cellsFrom 0 F'.sc.names []).map (·.1) = if cm then (cellsFrom 0 F.sc.names []).map (·.1) else []
  tg : (∀ it v, letOwnedTupleGo target it v = pure ()) ∨ ∃ ts k p, target = .Tuple ts k p

def nsC (o : Obj) : Prop := ∃ es ep, o.data = .dict es ep ∧ StrKeys es

theorem perm_comp {α : Type} (c d a i : α) (X Y G fr : List α) : ([c, d] ++ ((a :: (X ++ Y)) ++ (G ++ (i :: fr)))).Perm ((c :: X) ++ (G ++ (i :: d :: a :: (Y ++ fr)))) := by
  classical
  refine List.perm_iff_count.mpr fun x => ?_
  simp only [List.count_append, List.count_cons, List.count_nil]; exact ar416
theorem perm_comp2 {α : Type} (c d a : α) (X Y G fr : List α) : ((c :: X) ++ (G ++ (d :: a :: (Y ++ fr)))).Perm (d :: ((a :: (X ++ Y)) ++ (G ++ (c :: fr)))) := by
  classical
  refine List.perm_iff_count.mpr fun x => ?_
  simp only [List.count_append, List.count_cons, List.count_nil]; exact ar417

theorem weak_cells {loc loc' : List (Str × AV)} (x : Ext Z φ Z' φ') : ∀ (cs : List (Str × Addr)), (∀ c ∈ cs, ∀ av, get loc' c.1 = some av → get loc c.1 = some av) →
    Weak (cs.map fun c => (c.2, CellP B Z φ loc c.1)) (cs.map fun c => (c.2, CellP B Z' φ' loc' c.1))
  | [], _ => .nil
  | c :: r, h => .cons (fun o ⟨v, q1, q2⟩ => ⟨v, q1, fun av e => let ⟨v', e1, e2⟩ := q2 av (h c List.mem_cons_self av e); ⟨v', e1, e2.mono x⟩⟩) (weak_cells x r fun d hd => h d (List.mem_cons_of_mem _ hd))

theorem prefix_len {φ φ' : List Addr} (h : φ <+: φ') (e : φ'.length = φ.length) : φ' = φ := (List.IsPrefix.eq_of_length h e.symm).symm

section
variable {F' : Frm} {cm : Bool} {target elt iter : Expr} {scope : Scope} {pos : Pos}

def frI (B : Base) (Z : Fz) (φ : List Addr) (env : Env) (loc : List (Str × AV)) (cs2 : List (Str × Addr)) (D : Addr) (l : List AV) (fr : List Ent) : List Ent :=
  (D, MOP B Z φ (.list l)) :: (env.locals, NsP B Z φ env.scope.names loc) :: ((cs2.map fun c => (c.2, CellP B Z φ loc c.1)) ++ fr)
theorem weak_frI (x : Ext Z φ Z' φ') (loc) (cs2 : List (Str × Addr)) (D : Addr) (l : List AV) (fr : List Ent) : Weak (frI B Z φ env loc cs2 D l fr) (frI B Z' φ' env loc cs2 D l fr) :=
  .cons (fun o h => h.mono x) (.cons (fun o h => h.mono x) ((weak_cells x cs2 fun _ _ _ e => e).append (Weak.refl _)))

inductive CoI (B : Base) (Z : Fz) (φ : List Addr) (cenv : Env) (loc0 : List (Str × AV)) (σ : St) (I : Addr) (ip : Nat → Obj → Prop) (env : Env) (cs2 : List (Str × Addr)) (D : Addr) (ys : List AV) (fr : List Ent) (N n : Nat) (s' : Shared) : Prop
  | mk : ∀ k Z1, n + k = N + 1 → k ≤ N → Ext Z φ Z1 φ → Rel B Z1 φ cenv ⟨loc0, σ.led⟩ ((I, ip k) :: frI B Z1 φ env σ.loc cs2 D (ys.take k) fr) s' → CoI B Z φ cenv loc0 σ I ip env cs2 D ys fr N n s'
theorem comp_loop {A : Around} {I D C : Addr} {cs1 cs2 : List (Str × Addr)} {items ys : List AV} {ok : List MO → Prop} {loc0 : List (Str × AV)} {ip : Nat → Obj → Prop} {a : AV} {cenv : Env} {RR : Result → Shared → Prop} (hA : Rm F.ht A) (hE' : EnvOk F' cenv)
    (W : CompFrm F F' cm scope target) (K : CompOk B F F' cm target elt a σ ys items ok loc0) (io : IterOk B Z φ I items ok ip) (hl : φ.length = σ.led.length)
    (R : Rel B Z φ cenv ⟨loc0, σ.led⟩ ((I, ip 0) :: frI B Z φ env σ.loc cs2 D [] fr) s)
    (fin : ∀ Z' s', Ext Z φ Z' φ → Rel B Z' φ cenv ⟨loc0, σ.led⟩ (frI B Z' φ env σ.loc cs2 D ys fr) s' → RR (.ok .next) s') :
    codeAny (model B.prog B.w) A (.compLoop (.ListComp elt [⟨target, iter, [], 0⟩] scope pos) 0 (.ref I) (.ref D) cenv) RR s := by
  refine compLoop_any (fun n s' => CoI B Z φ cenv loc0 σ I ip env cs2 D ys fr items.length n s') ?_ (items.length + 1)
    ⟨0, Z, rfl, Nat.zero_le _, .refl _ _, by assumption⟩
  rintro n s1 ⟨k, Z1, hn, hk, x1, R1⟩
  have hA' : Rm F'.ht A := by rw [W.ht]; exact hA
  by_cases hlt : k < items.length
  · refine wpAny_mono (io.nxt (σ1 := ⟨loc0, σ.led⟩) hA.hd x1 K.ok hlt R1) (fun r s2 ⟨v, x, hr, hx, rv, R2⟩ => ?_) fun _ _ e => e
    subst hr
    obtain ⟨o, ho, hp⟩ := R2.inv.ent (I, ip (k + 1)) (by simp)
    have go : wpAny (model B.prog B.w) A (letOwnedTupleGo target (.ref I) v) (fun _ s2' => s2' = s2) NoE s2 := by
      rcases W.tg with ht | ⟨ts, kk, pp, rfl⟩
      · rw [ht]; exact wpAny_pure rfl
      · exact io.go ⟨o, ho, hp⟩ _ rfl
    refine wpAny_mono go (fun _ s2' e => ?_) fun _ _ e => e
    subst e
    have hky : k < ys.length := by rw [K.len]; exact hlt
    refine wpAny_mono (K.turn k x ys[k] hx (List.getElem?_eq_getElem hky) A cenv Z1 φ _ _ v hA' hE' rv R2) (fun _ s3 ⟨Z3, φ3, σ3, x3, R3, h3⟩ => ?_) fun _ _ e => e
    refine wpAny_mono (h3 A cenv Z3 φ3 _ s3 hA' hE' R3) (fun y s4 ⟨Z4, φ4, σ4, av, x4, ry, R4, hy, hled, hloc⟩ => ?_) fun _ _ e => e
    subst hy
    have x34 := x3.trans x4
    have e4 : φ4 = φ := prefix_len x34.p (by rw [R4.len, hled, hl])
    subst e4
    have J := R4.inv
    have J2 : Inv B Z4 ((frameE B Z4 φ4 cenv σ4.loc ++ (ledE B Z4 φ4 σ4.led ++ [(I, ip (k + 1))])) ++ (D, MOP B Z1 φ4 (.list (ys.take k))) :: ((env.locals, NsP B Z1 φ4 env.scope.names σ.loc) :: ((cs2.map fun c => (c.2, CellP B Z1 φ4 σ.loc c.1)) ++ fr))) s4 := by
      simpa [frI, List.append_assoc] using J
    obtain ⟨oD, hoD, items', n', rfl, rl⟩ := J2.ent (D, MOP B Z1 φ4 (.list (ys.take k))) (by simp)
    have hsz : items'.size ≤ 1000000 := by
      have := lsize rl
      rw [this, List.length_take]; have := K.small; exact ar418 hk this
    refine wpAny_list_append_plain (hsz := by rw [sizeLine_eq]; exact ar1 hsz) ⟨n', hoD⟩ fun h5 ⟨n5, ho5⟩ hs5 => ?_
    refine ⟨n - 1, (ar105 hn hk), k + 1, Z4, (ar106 hn hk), hlt, ⟨x1.z.trans x34.z, List.prefix_refl _⟩, ?_⟩
    have J3 := J2.upd (tk := s4.toks) (p' := MOP B Z4 φ4 (.list (ys.take (k + 1)))) rfl hs5.extBut ho5 ⟨_, _, rfl, by
      rw [List.take_add_one, List.getElem?_eq_getElem hky]
      simpa using (rl.mono ⟨x34.z, List.prefix_refl _⟩).append (.cons ry .nil)⟩
    have xz : Ext Z1 φ4 Z4 φ4 := ⟨x34.z, List.prefix_refl _⟩
    refine ⟨?_, by assumption⟩
    have J4 := J3.weak (E' := (frameE B Z4 φ4 cenv loc0 ++ (ledE B Z4 φ4 σ.led ++ [(I, ip (k + 1))])) ++ frI B Z4 φ4 env σ.loc cs2 D (ys.take (k + 1)) fr) ?_
    · simpa [List.append_assoc] using J4
    · rw [hled]
      refine Weak.append (Weak.append ?_ (Weak.refl _)) ?_
      · refine .cons (fun o ⟨es, ep, q1, q2, q3⟩ => ⟨es, ep, q1, q2, fun z av' h1 h2 => q3 z av' h1 (hloc z av' h2)⟩) ?_
        exact weak_cells (.refl _ _) _ fun c _ av' e => hloc _ _ e
      · exact .cons (fun _ q => q) (.cons (fun o h => h.mono xz) ((weak_cells xz cs2 fun _ _ _ e => e).append (Weak.refl _)))
  · obtain rfl : k = items.length := ar107 hk hlt
    refine wpAny_mono (io.fin (σ1 := ⟨loc0, σ.led⟩) hA.hd x1 K.ok R1) (fun r s2 ⟨hr, R2⟩ => ?_) fun _ _ e => e
    subst hr
    exact fin Z1 s2 x1 (by rw [← K.len, List.take_length] at R2; exact R2)

inductive CompP (B : Base) (F F' : Frm) (cm : Bool) (target elt : Expr) (KK : List AV → St → Prop) (a : AV) (σ1 : St) : Prop
  | mk (ys items ok loc0) : CompOk B F F' cm target elt a σ1 ys items ok loc0 → KK ys σ1 → CompP B F F' cm target elt KK a σ1
theorem envC_ok {D : Addr} (hE : EnvOk F env) (W : CompFrm F F' cm scope target) : EnvOk F' (compEnvC scope (if cm then env.cells else []) D env) := by
  have hsc : (compEnvC scope (if cm then env.cells else []) D env).scope = F'.sc := W.rel env hE.sc
  refine ⟨hsc, W.kind', hE.gl, hE.bl, fun c q e => ?_, fun x hx => ?_, fun c hc => ?_, ?_, ?_⟩
  · rw [W.code] at e; cases e
  · obtain ⟨q1, q2⟩ := W.c1 x hx
    subst q1
    exact hE.cells x q2
  · cases cm with
    | false => cases hc
    | true => exact W.c2 rfl _ (hE.cellk c hc)
  · cases cm with
    | false => exact List.nodup_nil
    | true => exact hE.celln
  · rw [W.c3]
    cases cm with
    | false => rfl
    | true => exact hE.celle

theorem comp_core {A : Around} {use : Option (Value → Sem Unit)} {Qf : Value → Shared → Prop} {KK : List AV → St → Prop} (hA : Rm F.ht A) (hE : EnvOk F env) (W : CompFrm F F' cm scope target)
    (hs : ∀ env x, foldedSetIterable iter env x = pure x) (R : Rel B Z φ env σ fr s)
    (h : WE B F iter (fun a σ1 => CompP B F F' cm target elt KK a σ1) σ) {cpos : Pos}
    (fin : ∀ Z' φ' σ1 s' D C ys, KK ys σ1 → Ext Z φ Z' φ' → RelV B Z' φ' (.ref D) (.lst ys) → Rel B Z' φ' env σ1 ((C, nsC) :: fr) s' → compPost (model B.prog B.w) A NoE use Qf (.ref D) C (.ok .next) s') :
    wpAny (model B.prog B.w) A (comprehension (.ListComp elt [⟨target, iter, [], 0⟩] scope pos) scope env cpos (newList []) false (eval iter env) use) Qf NoE s := by
  refine wpAny_comprehension_free rfl (hs env) (W.clos env hE) W.kind W.names (wpAny_mono (h A env Z φ fr s hA hE R) (fun v s1 ⟨Z1, φ1, σ1, a, x1, rv, R1, ys, items, ok, loc0, K, hK⟩ => ?_) fun _ _ e => e)
  refine wpAny_mono (K.it A env Z1 φ1 fr σ1 s1 v hA.hd rv K.ok R1) (fun iv s2 ⟨I, ip, hi, R2, io⟩ => ?_) fun _ _ e => e
  subst hi
  refine wpAny_newObj_type (wpAny_newFunctionEnv W.nocell (by intro y hy; simp at hy) (fun h₁ hns hsb => ?_) W.kind)
  generalize hH2 : s2.heap.push { cls := .type "list", dict := none, data := .seq ([] : List Value).toArray } = H2 at hns hsb ⊢
  have hC : H2.objs.size = s2.heap.objs.size + 1 := by rw [← hH2, Heap.size_push]
  have hDC : s2.heap.objs.size ≠ H2.objs.size := by rw [hC]; exact Nat.ne_of_lt (Nat.lt_succ_self _)
  have old : ∀ b o, s2.heap.get? b = some o → h₁.get? b = some o := fun b o e => hsb.extBut b o (by rw [hC]; exact Nat.ne_of_lt (Nat.lt_succ_of_lt (Heap.lt_size e))) (Heap.get?_push_of_some _ (hH2 ▸ Heap.get?_push_of_some _ e))
  have hD : h₁.get? s2.heap.objs.size = some { cls := .type "list", data := .seq #[] } := hsb.extBut _ _ hDC (Heap.get?_push_of_some _ (hH2 ▸ Heap.get?_push_size _ rfl))
  obtain ⟨oC, es, ep, hoC, hdC, hkC, hfC⟩ := hns
  have hcl : env.cells = (if cm then env.cells else []) ++ (if cm then [] else env.cells) := by cases cm <;> simp
  generalize hcs1 : (if cm then env.cells else []) = cs1 at *
  generalize hcs2 : (if cm then [] else env.cells) = cs2 at *
  have hsc : (compEnvC scope cs1 H2.objs.size env).scope = F'.sc := W.rel env hE.sc
  have hE' : EnvOk F' (compEnvC scope cs1 H2.objs.size env) := hcs1 ▸ envC_ok hE W
  have hnl : ∀ x av, get loc0 x = some av → F'.sc.names.lookup x = some .local → False := fun x av e q => by
    cases cm with
    | false => rw [K.none rfl] at e; cases e
    | true => rw [W.c2 rfl x (K.cell x av e).1] at q; cases q
  -- the inner state
  have R4 : Rel B Z1 φ1 (compEnvC scope cs1 H2.objs.size env) ⟨loc0, σ1.led⟩ ((I, ip 0) :: frI B Z1 φ1 env σ1.loc cs2 s2.heap.objs.size [] fr) { s2 with heap := h₁, toks := s2.toks } := by
    refine ⟨?_, R1.len⟩
    have J := R2.inv.news (h' := h₁) (tk := s2.toks) old [(H2.objs.size, NsP B Z1 φ1 F'.sc.names loc0), (s2.heap.objs.size, MOP B Z1 φ1 (.list []))] (fun p hp => ?_) ?_
    · have J2 := J.perm (E' := ((H2.objs.size, NsP B Z1 φ1 F'.sc.names loc0) :: (cs1.map fun c => (c.2, CellP B Z1 φ1 σ1.loc c.1))) ++ (ledE B Z1 φ1 σ1.led ++ ((I, ip 0) :: frI B Z1 φ1 env σ1.loc cs2 s2.heap.objs.size [] fr))) (by
        have := perm_comp (H2.objs.size, NsP B Z1 φ1 F'.sc.names loc0) (s2.heap.objs.size, MOP B Z1 φ1 (.list [])) (env.locals, NsP B Z1 φ1 env.scope.names σ1.loc) (I, ip 0) (cs1.map fun c => (c.2, CellP B Z1 φ1 σ1.loc c.1)) (cs2.map fun c => (c.2, CellP B Z1 φ1 σ1.loc c.1)) (ledE B Z1 φ1 σ1.led) fr
        rw [← List.map_append, ← hcl] at this
        exact this)
      refine J2.weak (Weak.append ?_ (Weak.refl _))
      refine .cons (fun o q => by rw [hsc]; exact q) ?_
      exact weak_cells (.refl _ _) cs1 fun c _ av e => (K.cell _ _ e).2
    · simp only [List.mem_cons, List.not_mem_nil, or_false] at hp
      rcases hp with rfl | rfl
      · exact ⟨by rw [hC]; exact Nat.le_succ _, oC, hoC, es, ep, hdC, hkC, fun x av hx e => (hnl x av e hx).elim⟩
      · exact ⟨Nat.le_refl _, _, hD, #[], _, rfl, .nil⟩
    · simp [Ne.symm hDC]
  have loop : codeAny (model B.prog B.w) A (.compLoop (.ListComp elt [⟨target, iter, [], 0⟩] scope pos) 0 (.ref I) (.ref s2.heap.objs.size) (compEnvC scope cs1 H2.objs.size env))
      (compPost (model B.prog B.w) A NoE use Qf (.ref s2.heap.objs.size) H2.objs.size) { s2 with heap := h₁, toks := s2.toks } := by
    refine comp_loop (C := H2.objs.size) (cs1 := cs1) hA hE' W K io R1.len R4 fun Z' s' x' R' => ?_
    have J := R'.inv.perm (perm_comp2 (H2.objs.size, NsP B Z' φ1 (compEnvC scope cs1 H2.objs.size env).scope.names loc0) (s2.heap.objs.size, MOP B Z' φ1 (.list ys)) (env.locals, NsP B Z' φ1 env.scope.names σ1.loc)
      (cs1.map fun c : Str × Addr => ((c.2, CellP B Z' φ1 loc0 c.1) : Ent)) (cs2.map fun c : Str × Addr => ((c.2, CellP B Z' φ1 σ1.loc c.1) : Ent)) (ledE B Z' φ1 σ1.led) fr)
    have hz : Z' s2.heap.objs.size = Option.none := J.dj _ List.mem_cons_self
    obtain ⟨o, ho, items', n', rfl, rl⟩ := J.ent _ List.mem_cons_self
    have J2 := J.freeze ho
    have xz : Ext Z' φ1 (Z'.put s2.heap.objs.size { cls := .type "list", data := .seq items' n' }) φ1 := ⟨Fz.le.put hz, List.prefix_refl _⟩
    refine fin _ φ1 σ1 s' s2.heap.objs.size H2.objs.size ys hK (x1.trans (x'.trans xz)) (.lst (Fz.put_self ..) (rl.mono xz)) ⟨?_, R1.len⟩
    refine J2.weak (Weak.append (.cons (fun o h => h.mono xz) ?_) (Weak.append (weak_led xz φ1 _) (.cons (fun o ⟨es, ep, q1, q2, _⟩ => ⟨es, ep, q1, q2⟩) (Weak.refl _))))
    rw [hcl, List.map_append]
    refine Weak.append (weak_cells xz cs1 fun c hc av e => ?_) (weak_cells xz cs2 fun _ _ _ e => e)
    cases cm with
    | false => simp at hcs1; subst hcs1; cases hc
    | true => simp at hcs1; subst hcs1; exact K.all rfl _ _ (hE.cellk c hc) e
  exact codeAny_compStart_list loop (io.self (k := 0) (by obtain ⟨o, ho, hp⟩ := R4.inv.ent (I, ip 0) (by simp); exact ⟨o, ho, hp⟩) loop)

theorem r_comp (W : CompFrm F F' cm scope target) (h : WE B F iter (fun a σ1 => CompP B F F' cm target elt (fun ys σ1 => Q (.lst ys) σ1) a σ1) σ) (hs : ∀ env x, foldedSetIterable iter env x = pure x) :
    WE B F (.ListComp elt [⟨target, iter, [], 0⟩] scope pos) Q σ := fun A env Z φ fr s hA hE R => by
  rw [eval_ListComp]
  refine comp_core (KK := fun ys σ1 => Q (.lst ys) σ1) hA hE W hs R h fun Z' φ' σ1 s' D C ys hq x rv R' => ?_
  obtain ⟨o, ho, es, ep, hd, hk⟩ := R'.inv.ent (C, nsC) (by simp)
  refine ⟨nsFind es, ⟨o, es, ep, ho, hd, hk, fun _ => rfl⟩, fun h' hsb => ?_⟩
  exact ⟨Z', φ', σ1, _, x, rv, R'.iterDone (tk := s'.toks) hsb.extBut, hq⟩

/-- x = [... for ...] -/
theorem s_assign_comp {y py spos} (W : CompFrm F F' cm scope target) (hsw : ∀ env, env.scope = F.sc → swapsWith (.ListComp elt [⟨target, iter, [], 0⟩] scope pos) (some (.Name y py)) spos.line env = pure true)
    (h : WE B F iter (fun a σ1 => CompP B F F' cm target elt (fun ys σ1 => WSt B F y (.lst ys) Qn σ1) a σ1) σ) (hs : ∀ env x, foldedSetIterable iter env x = pure x) :
    WS B F (.Assign [.Name y py] (.ListComp elt [⟨target, iter, [], 0⟩] scope pos) spos) Qn Qr σ := fun A env Z φ fr s hA hE R => by
  rw [exec_Assign_Name_used _ _ _ _ (hsw env hE.sc)]
  refine wpAny_bind (wpAny_standAt (wpAny_bind ?_))
  show wpAny _ A (do let _ ← comprehension (.ListComp elt [⟨target, iter, [], 0⟩] scope pos) scope env _ (newList []) false (eval iter env) (some (assign (.Name y py) env))) _ _ s
  refine wpAny_bind (wpAny_mono (comp_core (use := some (assign (.Name y py) env)) (Qf := fun _ s' => PostF B env Z φ fr Qn Qr .next s') (KK := fun ys σ1 => WSt B F y (.lst ys) Qn σ1) hA hE W hs R h fun Z' φ' σ1 s' D C ys hq x rv R' => ?_)
    (fun _ s' hq => wpAny_pure (wpAny_pure hq)) fun _ _ e => e)
  refine wpAny_assign_Name (wpAny_mono (hq A env Z' φ' _ s' (.ref D) hA hE rv R') (fun _ s2 ⟨Z2, φ2, σ2, x2, R2, h2⟩ => ?_) fun _ _ e => e)
  obtain ⟨o, ho, es, ep, hd, hk⟩ := R2.inv.ent (C, nsC) (by simp)
  refine ⟨nsFind es, ⟨o, es, ep, ho, hd, hk, fun _ => rfl⟩, fun h' hsb => ?_⟩
  exact ⟨Z2, φ2, σ2, x.trans x2, R2.iterDone (tk := s2.toks) hsb.extBut, h2⟩
end

end Mine
end
section
open PySem PySem.W PyProof.Rows PySem.SeqAt
set_option Elab.async false
set_option linter.unusedVariables false
set_option maxRecDepth 100000
namespace Mine
variable {B : Base} {Z Z' : Fz} {φ φ' ψ : List Addr} {F : Frm} {σ : St} {Q : AV → St → Prop} {env : Env} {fr : List Ent} {s : Shared} {Qn : St → Prop} {Qr : AV → St → Prop}

def ai (l : List Int) : List AV := l.map .int
def ap (l : List (Int × Int)) : List AV := l.map fun p => .tup [.int p.1, .int p.2]

/-! ### built-in functions -/
theorem k_len {a l} (h1 : LstOf σ.led a l) (hz : l.length ≤ 1000000) (h : Q (.int l.length) σ) : WCall B F (.builtin "len") [a] Q σ := fun A env Z φ fr s vs hA hE hv R => by
  obtain ⟨_, _, rfl, h0, h2⟩ := hv.cons_i
  obtain rfl := h2.nil_i
  obtain ⟨p, items, n, rfl, hL, rl⟩ := R.lst h1 h0
  have e1 := lsize rl
  refine Calls.call_len_list hL.isList (ar73 hz e1) ?_
  rw [e1]
  exact postV (.int ..) R.toks h
theorem k_lens {x : Str} (hz : x.length ≤ 1000000) (h : Q (.int x.length) σ) : WCall B F (.builtin "len") [.str x] Q σ := fun A env Z φ fr s vs hA hE hv R => by
  obtain ⟨_, _, rfl, h0, h2⟩ := hv.cons_i
  obtain rfl := h2.nil_i
  obtain ⟨_, rfl⟩ := h0.str_i
  exact len_str (ar363 hz) (postV (.int ..) R.toks h)
theorem k_ord {c : Nat} (h : Q (.int c) σ) : WCall B F (.builtin "ord") [.str ⟨#[c]⟩] Q σ := fun A env Z φ fr s vs hA hE hv R => by
  obtain ⟨_, _, rfl, h0, h2⟩ := hv.cons_i
  obtain rfl := h2.nil_i
  obtain ⟨_, rfl⟩ := h0.str_i
  exact P.ord_of_char (postV (.int ..) R.toks h)
theorem k_chr {i : Int} (h0 : 0 ≤ i) (h1 : i ≤ 0x10FFFF) (h : Q (.str ⟨#[i.toNat]⟩) σ) : WCall B F (.builtin "chr") [.int i] Q σ := fun A env Z φ fr s vs hA hE hv R => by
  obtain ⟨_, _, rfl, g0, h2⟩ := hv.cons_i
  obtain rfl := h2.nil_i
  obtain ⟨_, rfl⟩ := g0.int_i
  exact P.chr_of_int (by simp; exact ar364 h0 h1) (postV (.str ..) R.toks h)
theorem k_max {i j : Int} (h : Q (.int (max i j)) σ) : WCall B F (.builtin "max") [.int i, .int j] Q σ := fun A env Z φ fr s vs hA hE hv R => by
  obtain ⟨_, _, rfl, h0, h2⟩ := hv.cons_i
  replace h2 := h2.cons_i; obtain ⟨_, _, rfl, h2, h3⟩ := h2
  obtain rfl := h3.nil_i; obtain ⟨_, rfl⟩ := h0.int_i; obtain ⟨_, rfl⟩ := h2.int_i
  refine max_two_ints hA.hd fun h' tk hk => ?_
  by_cases e : j > i
  · rw [if_pos e]; rw [show max i j = j from ar365 e] at h; exact postV (.int ..) (R.keeps hk) h
  · rw [if_neg e]; rw [show max i j = i from ar366 e] at h; exact postV (.int ..) (R.keeps hk) h
theorem k_min {i j : Int} (h : Q (.int (min i j)) σ) : WCall B F (.builtin "min") [.int i, .int j] Q σ := fun A env Z φ fr s vs hA hE hv R => by
  obtain ⟨_, _, rfl, h0, h2⟩ := hv.cons_i
  replace h2 := h2.cons_i; obtain ⟨_, _, rfl, h2, h3⟩ := h2
  obtain rfl := h3.nil_i; obtain ⟨_, rfl⟩ := h0.int_i; obtain ⟨_, rfl⟩ := h2.int_i
  refine min_two_ints hA.hd fun h' tk hk => ?_
  by_cases e : j < i
  · rw [if_pos e]; rw [show min i j = j from ar367 e] at h; exact postV (.int ..) (R.keeps hk) h
  · rw [if_neg e]; rw [show min i j = i from ar368 e] at h; exact postV (.int ..) (R.keeps hk) h
theorem k_range {n : Nat} (h : Q (.rng n) σ) : WCall B F (.type "range") [.int n] Q σ := fun A env Z φ fr s vs hA hE hv R => by
  obtain ⟨_, _, rfl, h0, h2⟩ := hv.cons_i
  obtain rfl := h2.nil_i
  obtain ⟨t, rfl⟩ := h0.int_i
  refine call_range_1 ?_
  obtain ⟨R2, x2⟩ := R.allocZ (tk := s.toks + 1 + 1) (fun b o e => Heap.get?_push_of_some { cls := .type "range", data := .fields #[.int 0 s.toks, .int n t, .int 1 (s.toks + 1)] } e) (Nat.le_refl _) (Heap.get?_push_size _ rfl)
  exact ⟨_, _, σ, _, x2, .rng (Fz.put_self ..), R2, h⟩
theorem intsAre : ∀ {vs : List Value} {ns : List Int}, RelVs B Z φ vs (ai ns) → IntsAre vs ns
  | [], [], _ => by first | exact .nil | exact trivial | constructor
  | v :: vs, n :: ns, h => by
    cases h with
    | cons h1 h2 =>
    obtain ⟨_, rfl⟩ := h1.int_i
    exact .cons _ _ (intsAre h2)
  | [], _ :: _, h => by cases h
  | _ :: _, [], h => by cases h
theorem k_sum {a : AV} {ns : List Int} (h1 : LstOf σ.led a (ai ns)) (h : Q (.int ns.sum) σ) : WCall B F (.builtin "sum") [a] Q σ := fun A env Z φ fr s vs hA hE hv R => by
  obtain ⟨_, _, rfl, h0, h2⟩ := hv.cons_i
  obtain rfl := h2.nil_i
  obtain ⟨p, items, n, rfl, hL, rl⟩ := R.lst h1 h0
  have hi := intsAre rl
  obtain ⟨xs, hx⟩ := hi.allInts.items
  rw [Array.toArray_toList] at hx
  refine sum_intListG hA.hd (hx ▸ hL.isList) fun h' tk t' hk => ?_
  have e1 : ns = xs.toList.map (·.1) := by
    rw [← nums_intItems, ← hx]
    exact (show numsOf items.toList = ns from hi.numsOf).symm
  have e2 : preSum (numAt xs) xs.size = ns.sum := by
    rw [preSum_eq, List.take_of_length_le (by simp), e1]
  rw [e2]
  exact postV (.int ..) (R.keeps hk) h

/-! ### equality -/
theorem Rm.units1 {h A} (x : Rm h A) : A.units < cLine := by have := x.units; show A.units < 9900; exact ar369 this
theorem eqAt_int {A : Around} {v u : Value} {i j : Int} (h1 : RelV B Z φ v (.int i)) (h2 : RelV B Z φ u (.int j)) : EqAt A s v u (i == j) := by
  obtain ⟨_, rfl⟩ := h1.int_i; obtain ⟨_, rfl⟩ := h2.int_i; exact EqAt.int_int _ _ _ _
theorem c_ne_ints {a b : AV} {l m : List Int} (h1 : LstOf σ.led a (ai l)) (h2 : LstOf σ.led b (ai m)) (h : Q (.bool (decide (l ≠ m))) σ) : W2 B F (compareOp .NotEq) a b Q σ := fun A env Z φ fr s v u hA hE hv hu R => by
  obtain ⟨p, items, n, rfl, hL, rl⟩ := R.lst h1 hv
  obtain ⟨p2, items2, n2, rfl, hL2, rl2⟩ := R.lst h2 hu
  have e1 : items.size = l.length := by rw [lsize rl]; simp [ai]
  have e2 : items2.size = m.length := by rw [lsize rl2]; simp [ai]
  by_cases hs : l.length = m.length
  · refine RcNeAt.lists (e := fun j => l[j]? == m[j]?) hL.isList hL2.isList (ar95 e1 e2 hs) hA.units1 (fun j q1 q2 => ?_) _ _ _ _ ?_
    · have q1' : j < l.length := ar39 e1 q1
      have q2' : j < m.length := ar96 e1 hs q1
      obtain ⟨x, f1, f2⟩ := rl.get (i := j) (a := .int l[j]) (by simp [ai, q1'])
      obtain ⟨y, g1, g2⟩ := rl2.get (i := j) (a := .int m[j]) (by simp [ai, q2'])
      have f3 : items[j] = x := by simpa [q1] using f1
      have g3 : items2[j] = y := by simpa [q2] using g1
      rw [f3, g3]
      have := eqAt_int (s := s) (A := A.in1) f2 g2
      simpa [q1', q2'] using this
    · have : (!(List.range items.size).all fun j => l[j]? == m[j]?) = decide (l ≠ m) := by
        rw [Bool.eq_iff_iff]
        simp only [Bool.not_eq_true', decide_eq_true_eq]
        rw [← Bool.not_eq_true, List.all_eq_true]
        refine not_congr ⟨fun g => List.ext_getElem? fun j => ?_, fun g j _ => by simp [g]⟩
        by_cases q : j < items.size
        · simpa using g j (List.mem_range.mpr q)
        · rw [List.getElem?_eq_none (ar97 e1 q), List.getElem?_eq_none (ar98 e1 hs q)]
      rw [this]
      exact postV (.bool ..) R h
  · refine RcNeAt.lists_lengths hL.isList hL2.isList (by simp; exact ar99 e1 e2 hs) hA.units1 _ _ _ _ ?_
    have : decide (l ≠ m) = true := by simp; rintro rfl; exact hs rfl
    rw [this] at h
    exact postV (.bool ..) R h

theorem eqAt_pair {A : Around} {v u : Value} {p q : Int × Int} (hu : A.units < cLine) (h1 : RelV B Z φ v (.tup [.int p.1, .int p.2])) (h2 : RelV B Z φ u (.tup [.int q.1, .int q.2])) {E} (I : Inv B Z E s) : EqAt A s v u (p == q) := by
  obtain ⟨a, o, items, n, rfl, q1, q2, q3, q4⟩ := h1.tup_i
  obtain ⟨a', o', items', n', rfl, r1, r2, r3, r4⟩ := h2.tup_i
  obtain ⟨x0, f0, f0'⟩ := q4.get (i := 0) rfl
  obtain ⟨x1, f1, f1'⟩ := q4.get (i := 1) rfl
  obtain ⟨y0, g0, g0'⟩ := r4.get (i := 0) rfl
  obtain ⟨y1, g1, g1'⟩ := r4.get (i := 1) rfl
  by_cases e : a = a'
  · subst e
    rw [q1] at r1; cases r1
    rw [q3] at r3; cases r3
    rw [f0] at g0; cases g0
    rw [f1] at g1; cases g1
    have e1 : p = q := by
      obtain ⟨_, e1⟩ := f0'.int_i
      obtain ⟨_, e2⟩ := g0'.int_i
      obtain ⟨_, e3⟩ := f1'.int_i
      obtain ⟨_, e4⟩ := g1'.int_i
      exact Prod.ext (Value.int.inj (e1.symm.trans e2)).1 (Value.int.inj (e3.symm.trans e4)).1
    rw [e1, beq_self_eq_true]
    exact EqAt.same _
  · refine EqAt.of_refs e ?_
    have s1 : items.size = 2 := lsize q4
    have s2 : items'.size = 2 := lsize r4
    have := RcAt.tuples (A := A) (s := s) (l := a) (b := a') (items := items) (items2 := items') (e := fun j => if j = 0 then p.1 == q.1 else p.2 == q.2) ⟨o, I.fz _ _ q1, q2, n, q3⟩ ⟨o', I.fz _ _ r1, r2, n', r3⟩ hu (fun j k1 k2 => ?_)
    · have e2 : ((List.range (min items.size items'.size)).all (fun j => if j = 0 then p.1 == q.1 else p.2 == q.2) && items.size == items'.size) = (p == q) := by
        rw [s1, s2]
        simp [List.range_succ]
        rw [Bool.eq_iff_iff]; simp [Prod.ext_iff]
      rw [e2] at this
      exact this
    · have hj : j = 0 ∨ j = 1 := ar370 s1 k1
      rcases hj with rfl | rfl
      · have e3 : items[0] = x0 := by simpa [k1] using f0
        have e4 : items'[0] = y0 := by simpa [k2] using g0
        rw [e3, e4]; exact eqAt_int f0' g0'
      · have e3 : items[1] = x1 := by simpa [k1] using f1
        have e4 : items'[1] = y1 := by simpa [k2] using g1
        rw [e3, e4]; exact eqAt_int f1' g1'
theorem c_eq_pairs {a b : AV} {l m : List (Int × Int)} (h1 : LstOf σ.led a (ap l)) (h2 : LstOf σ.led b (ap m)) (h : Q (.bool (decide (l = m))) σ) : W2 B F (compareOp .Eq) a b Q σ := fun A env Z φ fr s v u hA hE hv hu R => by
  obtain ⟨p, items, n, rfl, hL, rl⟩ := R.lst h1 hv
  obtain ⟨p2, items2, n2, rfl, hL2, rl2⟩ := R.lst h2 hu
  have e1 : items.size = l.length := by rw [lsize rl]; simp [ap]
  have e2 : items2.size = m.length := by rw [lsize rl2]; simp [ap]
  by_cases hs : l.length = m.length
  · refine eq_listAt (e := fun j => l[j]? == m[j]?) hL.isList hL2.isList (ar95 e1 e2 hs) hA.units1 (fun j q1 q2 => ?_) ?_
    · have q1' : j < l.length := ar39 e1 q1
      have q2' : j < m.length := ar96 e1 hs q1
      obtain ⟨x, f1, f2⟩ := rl.get (i := j) (a := .tup [.int l[j].1, .int l[j].2]) (by simp [ap, q1'])
      obtain ⟨y, g1, g2⟩ := rl2.get (i := j) (a := .tup [.int m[j].1, .int m[j].2]) (by simp [ap, q2'])
      have f3 : items[j] = x := by simpa [q1] using f1
      have g3 : items2[j] = y := by simpa [q2] using g1
      rw [f3, g3]
      have := eqAt_pair (s := s) (A := A.in1) (by have := hA.units; show A.units + 1 < 9900; exact ar371 this) f2 g2 R.inv
      simpa [q1', q2'] using this
    · have : ((List.range items.size).all fun j => l[j]? == m[j]?) = decide (l = m) := by
        rw [Bool.eq_iff_iff]
        simp only [decide_eq_true_eq]
        rw [List.all_eq_true]
        refine ⟨fun g => List.ext_getElem? fun j => ?_, fun g j _ => by simp [g]⟩
        by_cases q : j < items.size
        · simpa using g j (List.mem_range.mpr q)
        · rw [List.getElem?_eq_none (ar97 e1 q), List.getElem?_eq_none (ar98 e1 hs q)]
      rw [this]
      exact postV (.bool ..) R h
  · refine eq_list_lengthsAt hL.isList hL2.isList (by simp; exact ar99 e1 e2 hs) hA.units1 ?_
    have : decide (l = m) = false := by simp; rintro rfl; exact hs rfl
    rw [this] at h
    exact postV (.bool ..) R h

theorem c_eq_nil {a b : AV} {l : List AV} (h1 : LstOf σ.led a l) (h2 : LstOf σ.led b []) (h : Q (.bool l.isEmpty) σ) : W2 B F (compareOp .Eq) a b Q σ := fun A env Z φ fr s v u hA hE hv hu R => by
  obtain ⟨p, items, n, rfl, hL, rl⟩ := R.lst h1 hv
  obtain ⟨p2, items2, n2, rfl, hL2, rl2⟩ := R.lst h2 hu
  have e1 := lsize rl
  have e2 : items2.size = 0 := lsize rl2
  cases l with
  | nil =>
    refine eq_listAt (e := fun _ => true) hL.isList hL2.isList (by rw [e1, e2]; rfl) hA.units1 (fun j q1 q2 => by omega) ?_
    have : ((List.range items.size).all fun _ => true) = true := by simp
    rw [this]; exact postV (.bool ..) R h
  | cons x r =>
    refine eq_list_lengthsAt hL.isList hL2.isList (by simp at e1; simp; exact ar372 e2 e1) hA.units1 ?_
    exact postV (.bool ..) R h

/-! ### in -/
theorem c_in_tup {i : Int} {l : List Int} (h : Q (.bool (l.any (· == i))) σ) : W2 B F (compareOp .In) (.int i) (.tup (ai l)) Q σ := fun A env Z φ fr s v u hA hE hv hu R => by
  obtain ⟨t, rfl⟩ := hv.int_i
  obtain ⟨a, o, items, n, rfl, q1, q2, q3, q4⟩ := hu.tup_i
  exact in_tuple_ints ⟨o, R.inv.fz _ _ q1, q2, n, q3⟩ (intsAre q4) (postV (.bool ..) R h)
theorem c_in_set {i : Int} {S : Int → Bool} (h : Q (.bool (S i)) σ) : W2 B F (compareOp .In) (.int i) (.iset S) Q σ := fun A env Z φ fr s v u hA hE hv hu R => by
  obtain ⟨t, rfl⟩ := hv.int_i
  obtain ⟨a, o, n, rfl, q1, q2⟩ := hu.iset_i
  exact wpAny_inSet_of (intKind_is _ _ _ _) rfl (q2 s.heap (R.inv.fz _ _ q1)) (postV (.bool ..) R.toks h)

/-! ### frozen dicts -/
def dgetl : List Int → List AV → Int → Option AV
  | k :: ks, v :: vs, x => if k = x then some v else dgetl ks vs x
  | _, _, _ => none
theorem dgetl_rel {kvs : List (Int × Value)} {ks : List Int} {l : List AV} (hk : kvs.map (·.1) = ks) (hr : RelVs B Z φ (kvs.map (·.2)) l) (k : Int) :
    (valueAt kvs k = none ∧ dgetl ks l k = none) ∨ ∃ v x, valueAt kvs k = some v ∧ dgetl ks l k = some x ∧ RelV B Z φ v x := by
  induction kvs generalizing ks l with
  | nil => subst hk; cases hr; exact .inl ⟨rfl, rfl⟩
  | cons p r ih =>
    subst hk
    cases hr with
    | @cons _ _ a as h1 h2 =>
    obtain ⟨j, v⟩ := p
    unfold valueAt
    simp only [List.map_cons, dgetl]
    by_cases e : j = k
    · simp [e]; exact h1
    · simpa [e, valueAt] using ih rfl h2
theorem ix_dct {ks l x} {k : Int} (hx : dgetl ks l k = some x) (h : Q x σ) : WIx B F (.dct ks l) (.int k) Q σ := fun A env Z φ fr s v u hA hE hv hu R => by
  obtain ⟨t, rfl⟩ := hu.int_i
  obtain ⟨a, o, kvs, rfl, hz, hd, hsm, hks, hr⟩ := hv.dct_i
  have hd1 : s.heap.DictOf (intKind B.prog B.w) a kvs := Heap.dictOf_iff.mpr ⟨o, R.inv.fz _ _ hz, hd⟩
  rcases dgetl_rel hks hr k with ⟨_, q⟩ | ⟨v, y, q1, q2, q3⟩
  · rw [hx] at q; cases q
  · rw [hx] at q2; cases q2
    exact ⟨"dict", _, hd1.mapOf.typeIs, slot_dict_getitem.lookup, wpAny_getItem_of (intKind_is _ _ _ _) hd1.mapOf q1 (postV q3 R.toks h)⟩
theorem m_get1 {e1 pos ks l} (hs : ∀ env, backTo pos (starEach [e1] env) = [(false, eval e1 env)])
    (h : WE B F e1 (fun j σ1 => ∃ k, j = .int k ∧ Q ((dgetl ks l k).getD .none) σ1) σ) :
    WMeth B F "dict" "dict.get" [e1] pos (.dct ks l) Q σ := fun A env Z φ fr s v hA hE hv R => by
  obtain ⟨a, o, kvs, rfl, hz, hd, hsm, hks, hr⟩ := hv.dct_i
  have hd1 : s.heap.DictOf (intKind B.prog B.w) a kvs := Heap.dictOf_iff.mpr ⟨o, R.inv.fz _ _ hz, hd⟩
  refine ⟨hd1.mapOf.typeIs, fun q hq => ?_, ?_⟩
  · cases hq; obtain ⟨o, es, ep, ho, hx, _⟩ := hd1; exact ⟨o, ho, hx.2.1⟩
  rw [hs]
  refine wpAny_dict_get1 (knd := intKind B.prog B.w) hsm (wpAny_mono (h A env Z φ fr s hA hE R) (fun u s1 ⟨Z1, φ1, σ1, j, x1, ru, R1, k, hk, h2⟩ => ?_) fun _ _ e => e)
  subst hk
  obtain ⟨t, rfl⟩ := ru.int_i
  have hd2 : s1.heap.DictOf (intKind B.prog B.w) a kvs := Heap.dictOf_iff.mpr ⟨o, R1.inv.fz _ _ (x1.z _ _ hz), hd⟩
  refine ⟨k, valueAt kvs, intKind_is _ _ _ _, hd2.mapOf, ?_⟩
  rcases dgetl_rel hks hr k with ⟨q1, q2⟩ | ⟨v, z, q1, q2, q3⟩
  · rw [q1]; rw [q2] at h2; exact ⟨Z1, φ1, σ1, .none, x1, .none, R1.toks, h2⟩
  · rw [q1]; rw [q2] at h2; exact ⟨Z1, φ1, σ1, z, x1, q3.mono x1, R1.toks, h2⟩
end Mine
end
section
open PySem PySem.W PyProof.Rows PySem.SeqAt
set_option Elab.async false
set_option linter.unusedVariables false
set_option maxRecDepth 100000
namespace Mine
variable {B : Base} {Z Z' : Fz} {φ φ' ψ : List Addr} {F : Frm} {σ : St} {Q : AV → St → Prop} {env : Env} {fr : List Ent} {s : Shared} {Qn : St → Prop} {Qr : AV → St → Prop}

/-! ### strings -/
def chs (cs : List Nat) : List AV := cs.map fun c => .str ⟨#[c]⟩
theorem strs_of : ∀ {vs : List Value} {cs : List Nat}, RelVs B Z φ vs (chs cs) → ∃ l : List (Str × Tok), vs = strValues l ∧ l.map (·.1) = cs.map fun c => (⟨#[c]⟩ : Str)
  | [], [], _ => ⟨[], rfl, rfl⟩
  | v :: vs, c :: cs, h => by
    cases h with
    | cons h1 h2 =>
    obtain ⟨t, rfl⟩ := h1.str_i
    obtain ⟨l, rfl, e⟩ := strs_of h2
    exact ⟨(⟨#[c]⟩, t) :: l, rfl, by simp [e]⟩
  | [], _ :: _, h => by cases h
  | _ :: _, [], h => by cases h
theorem glue_fold (sep : Str) (hs : sep.cps = #[]) : ∀ (cs : List Nat) (acc : Array Nat), (cs.map fun c => (⟨#[c]⟩ : Str)).foldl (fun acc p => acc ++ sep.cps ++ p.cps) acc = acc ++ cs.toArray
  | [], acc => by rfl
  | c :: cs, acc => by
    rw [List.map_cons, List.foldl_cons, glue_fold sep hs cs]; simp [hs]
theorem glued_chars (sep : Str) (hs : sep.cps = #[]) (cs : List Nat) : Builtin.Str.glued sep (cs.map fun c => (⟨#[c]⟩ : Str)) = ⟨cs.toArray⟩ := by
  unfold Builtin.Str.glued
  cases cs with
  | nil => rfl
  | cons c r =>
    simp only [List.map_cons, List.drop_succ_cons, List.drop_zero, List.headD_cons]
    rw [glue_fold sep hs]; simp
theorem len_fold (sep : Str) (hs : sep.cps = #[]) : ∀ (cs : List Nat) (k : Nat), (cs.map fun c => (⟨#[c]⟩ : Str)).foldl (· + ·.length + sep.length) k = k + cs.length
  | [], k => by rfl
  | c :: cs, k => by
    rw [List.map_cons, List.foldl_cons, len_fold sep hs cs]
    have e1 : sep.length = 0 := by unfold Str.length; rw [hs]; rfl
    have e2 : (⟨#[c]⟩ : Str).length = 1 := rfl
    rw [e1, e2]; simp; exact ar38
theorem m_join {e1 pos} {sep : Str} (hsep : sep.cps = #[]) (hs : ∀ env, backTo pos (starEach [e1] env) = [(false, eval e1 env)])
    (h : WE B F e1 (fun j σ1 => ∃ cs, LstOf σ1.led j (chs cs) ∧ cs.length ≤ 1000000 ∧ Q (.str ⟨cs.toArray⟩) σ1) σ) :
    WMeth B F "str" "str.join" [e1] pos (.str sep) Q σ := fun A env Z φ fr s v hA hE hv R => by
  obtain ⟨t, rfl⟩ := hv.str_i
  refine ⟨typeIs_str s sep t, (fun q hq => by cases hq), ?_⟩
  rw [hs]
  refine method1_meets PySem.F.slot_str_join PySem.F.entry_str_join (wpAny_mono (h A env Z φ fr s hA hE R) (fun u s1 ⟨Z1, φ1, σ1, j, x1, ru, R1, cs, hl, hz, h2⟩ => ?_) fun _ _ e => e)
  obtain ⟨p, items, n, rfl, hL, rl⟩ := R1.lst hl ru
  obtain ⟨l, e1, e2⟩ := strs_of rl
  have hlen : l.length = cs.length := by have := congrArg List.length e2; simpa using this
  have hi : s1.heap.IsList p (strValues l).toArray := by rw [← e1]; simpa using hL.isList
  refine ⟨typeIs_str s1 sep t, PySem.F.args_str_join_2 _ _, _, meets_str_join_list sep t p l ?_, hi, ?_⟩
  · rw [e2]; simp only [List.foldl_toArray']
    rw [len_fold sep hsep]; unfold Builtin.Str.tooLong; rw [sizeLine_eq]; simp; exact ar1 hz
  · cases l with
    | nil =>
      have : cs = [] := by cases cs with | nil => rfl | cons => simp at hlen
      subst this
      exact ⟨Nat.zero_le _, Z1, φ1, σ1, _, x1, .str .., R1.toks, h2⟩
    | cons q r =>
      cases r with
      | nil =>
        obtain ⟨c, rfl⟩ : ∃ c, cs = [c] := by
          cases cs with
          | nil => simp at hlen
          | cons c r => cases r with | nil => exact ⟨c, rfl⟩ | cons => simp at hlen
        obtain ⟨y, t'⟩ := q
        simp at e2
        subst e2
        exact ⟨Z1, φ1, σ1, _, x1, .str .., R1, h2⟩
      | cons q' r =>
        show ((Made.str (Builtin.Str.glued sep ((q :: q' :: r).map (·.1)))).post _ s1)
        rw [e2, glued_chars sep hsep]
        exact ⟨by rw [sizeLine_eq]; show cs.toArray.size ≤ _; simp; exact ar1 hz, Z1, φ1, σ1, _, x1, .str .., R1.toks, h2⟩
theorem lower_small : ∀ k : Fin 26, (placed ⟨#[65 + k.val]⟩ fun i _ => Unicode.lowerAt #[65 + k.val] i) = #[97 + k.val] := by decide +kernel
theorem m_lower {pos} {c : Nat} (h1 : 65 ≤ c) (h2 : c ≤ 90) (h : Q (.str ⟨#[c + 32]⟩) σ) : WMeth B F "str" "str.lower" [] pos (.str ⟨#[c]⟩) Q σ := fun A env Z φ fr s v hA hE hv R => by
  obtain ⟨t, rfl⟩ := hv.str_i
  refine ⟨typeIs_str s _ t, (fun q hq => by cases hq), ?_⟩
  obtain ⟨k, hk, rfl⟩ : ∃ k, k < 26 ∧ c = 65 + k := ⟨c - 65, (ar261 h2), (ar262 h1)⟩
  have e := lower_small ⟨k, hk⟩
  simp only at e
  refine method0_gives PySem.F.slot_str_lower PySem.F.entry_str_lower (typeIs_str s _ t) (PySem.F.args_str_lower_1 _) (gives_str_lower ⟨#[65 + k]⟩ t ?_) ?_
  · show Builtin.Str.tooLong (placed ⟨#[65 + k]⟩ fun i _ => Unicode.lowerAt #[65 + k] i).size = false
    rw [e]; rfl
  · show (Made.str ⟨placed ⟨#[65 + k]⟩ fun i _ => Unicode.lowerAt #[65 + k] i⟩).post _ s
    rw [e]
    refine ⟨by rw [sizeLine_eq]; show 1 ≤ _; exact ar263, Z, φ, σ, _, .refl _ _, .str .., R.toks, ?_⟩
    rw [show 97 + k = 65 + k + 32 from ar264]; exact h

/-! ### tuple assignment -/
theorem s_tup {elts k tpos value pos} (h : WE B F value (fun a σ1 => WAs B F (.Tuple elts k tpos) a Qn σ1) σ)
    (hs : ∀ env, env.scope = F.sc → swapsWithSole [.Tuple elts k tpos] value pos.line env = pure false) (hw : ∀ env, env.scope = F.sc → swappedStores [.Tuple elts k tpos] value env = pure none) :
    WS B F (.Assign [.Tuple elts k tpos] value pos) Qn Qr σ := fun A env Z φ fr s hA hE R =>
  Assign_Tuple (wpAny_mono (h A env Z φ fr s hA hE R) (fun v s1 ⟨Z1, φ1, σ1, a, x1, rv, R1, h1⟩ => wpAny_mono (h1 A env Z1 φ1 fr s1 v hA hE rv R1) (fun _ s2 ⟨Z2, φ2, σ2, x2, R2, h2⟩ => ⟨Z2, φ2, σ2, x1.trans x2, R2, h2⟩) fun _ _ e => e) fun _ _ e => e)
    (hs env hE.sc) (hw env hE.sc)
def WSts (B : Base) (F : Frm) : List Str → List AV → (St → Prop) → St → Prop
  | [], [], Qn, σ => Qn σ
  | x :: xs, a :: as, Qn, σ => WSt B F x a (fun σ1 => WSts B F xs as Qn σ1) σ
  | _, _, _, _ => False
theorem wsts_sound {xs : List Str} : ∀ {as : List AV} {Qn : St → Prop} {σ : St}, WSts B F xs as Qn σ → ∀ {A env Z φ fr s vs}, Rm F.ht A → EnvOk F env → RelVs B Z φ vs as → Rel B Z φ env σ fr s →
    wpAny (model B.prog B.w) A (assignInOrder (xs.map fun n => bindName env n) vs) (fun _ s' => PostN B env Z φ fr Qn s') NoE s := by
  induction xs with
  | nil =>
    intro as Qn σ h A env Z φ fr s vs hA hE hv R
    cases as with
    | nil => obtain rfl := hv.nil_i; exact wpAny_assignInOrder_none ⟨Z, φ, σ, .refl _ _, R, h⟩
    | cons => exact h.elim
  | cons t ts ih =>
    intro as Qn σ h A env Z φ fr s vs hA hE hv R
    cases as with
    | nil => exact h.elim
    | cons a as =>
      obtain ⟨_, _, rfl, h1, h2⟩ := hv.cons_i
      refine wpAny_assignInOrder_more (bindName_ (wpAny_mono (h A env Z φ fr s _ hA hE h1 R) (fun _ s1 ⟨Z1, φ1, σ1, x1, R1, q1⟩ => ?_) fun _ _ e => e))
      exact wpAny_mono (ih q1 hA hE (h2.mono x1) R1) (fun _ s2 ⟨Z2, φ2, σ2, x2, R2, q2⟩ => ⟨Z2, φ2, σ2, x1.trans x2, R2, q2⟩) fun _ _ e => e
theorem RelVs.reverse {vs : List Value} {as : List AV} (h : RelVs B Z φ vs as) : RelVs B Z φ vs.reverse as.reverse := by
  refine RelVs.of_get (by simp [h.length]) fun i v a e1 e2 => ?_
  have hl := h.length
  have hi : i < vs.length := by have := (List.getElem?_eq_some_iff.mp e1).1; simpa using this
  rw [List.getElem?_reverse (by (first | exact hi | exact ar39 hl hi))] at e1 e2
  rw [hl] at e1
  obtain ⟨a', q1, q2⟩ := h.get' e1
  rw [e2] at q1; cases q1; exact q2
inductive TupP (B : Base) (F : Frm) (names : List Str) (Qn : St → Prop) (a : AV) (σ1 : St) : Prop
  | mk (as) : a = .tup as → as.length = names.length → WSts B F names.reverse as.reverse Qn σ1 → TupP B F names Qn a σ1
theorem s_tupsw {elts k tpos value pos} {names : List Str} (h : WE B F value (fun a σ1 => TupP B F names Qn a σ1) σ)
    (hs : ∀ env, env.scope = F.sc → swapsWithSole [.Tuple elts k tpos] value pos.line env = pure false) (hw : ∀ env, env.scope = F.sc → swappedStores [.Tuple elts k tpos] value env = pure (some names)) :
    WS B F (.Assign [.Tuple elts k tpos] value pos) Qn Qr σ := fun A env Z φ fr s hA hE R =>
  Assign_Tuple_swapped (wpAny_mono (h A env Z φ fr s hA hE R) (fun v s1 ⟨Z1, φ1, σ1, a, x1, rv, R1, as, ha, hl, h1⟩ => by
    subst ha
    obtain ⟨a, o, items, n, rfl, q1, q2, q3, q4⟩ := rv.tup_i
    have hn : names.length = items.size := by rw [lsize q4, hl]
    rw [hn]
    refine unpackItems_tuple hA.hd ⟨o, R1.inv.fz _ _ q1, q2, n, q3⟩ fun h' hx => ?_
    have R2 : Rel B Z1 φ1 env σ1 fr { s1 with heap := h' } := R1.keeps (tk := s1.toks) fun b o e => hx b o (Nat.ne_of_lt (Heap.lt_size e)) e
    exact wpAny_mono (wsts_sound h1 hA hE q4.reverse R2) (fun _ s2 ⟨Z2, φ2, σ2, x2, R2, h2⟩ => ⟨Z2, φ2, σ2, x1.trans x2, R2, h2⟩) fun _ _ e => e) fun _ _ e => e)
    (hs env hE.sc) (hw env hE.sc)

theorem Rel.adopt {D : Addr} {mo : MO} (R : Rel B Z φ env σ ((D, MOP B Z φ mo) :: fr) s) (hg : mo ≠ .gone) : Rel B Z (φ ++ [D]) env ⟨σ.loc, σ.led ++ [mo]⟩ fr s := by
  have x : Ext Z φ Z (φ ++ [D]) := ⟨.refl _, List.prefix_append _ _⟩
  refine ⟨?_, by simp [R.len]⟩
  have J := R.inv.weak ((weak_frame x env σ.loc).append ((weak_led x φ σ.led).append (.cons (fun o h => h.mono x) (Weak.refl fr))))
  show Inv B Z (frameE B Z (φ ++ [D]) env σ.loc ++ (((φ ++ [D]).zip (σ.led ++ [mo])).flatMap _ ++ fr)) s
  rw [ledE_append R.len hg]
  simpa using J

/-- {k: v} -/
theorem r_dict1 {ke ve pos} (h : WE B F ke (fun k σ1 => WE B F ve (fun x σ2 => ∃ i, k = .int i ∧ Q (.ref σ2.led.length) ⟨σ2.loc, σ2.led ++ [.dict [(i, x)]]⟩) σ1) σ) : WE B F (.Dict [some ke] [ve] pos) Q σ := fun A env Z φ fr s hA hE R => by
  have R0 := R.iterNew (p := fun o => o.IsDictOf (intKind B.prog B.w) []) (o := { cls := .type "dict", data := .dict #[] }) ⟨#[], 0, ⟨rfl, rfl, rfl⟩, rfl, fun e he => by simp at he, .nil, by constructor⟩ rfl
  refine wpAny_Dict_walk (knd := intKind B.prog B.w) rfl rfl (by simp) (by exact Nat.succ_pos _) ?_
  refine pairTrees_cons_walk ?_
  refine wpAny_mono (h A env Z φ _ _ hA hE R0) (fun u s1 ⟨Z1, φ1, σ1, k, x1, ru, R1, h1⟩ => wpAny_mono (h1 A env Z1 φ1 _ s1 hA hE R1) (fun y s2 ⟨Z2, φ2, σ2, x, x2, ry, R2, i, hk, h2⟩ => ?_) fun _ _ e => e) fun _ _ e => e
  subst hk
  obtain ⟨t, rfl⟩ := ru.int_i
  obtain ⟨o, ho, hp⟩ := R2.inv.ent (s.heap.objs.size, fun o => o.IsDictOf (intKind B.prog B.w) []) (by simp)
  refine evalPairs_nil ⟨[(i, y)], ⟨intKind_is _ _ _ _, rfl, trivial⟩, Heap.dictOf_iff.mpr ⟨o, ho, hp⟩, fun h' hd' hsb => ?_⟩
  obtain ⟨o', ho', hp'⟩ := Heap.dictOf_iff.mp hd'
  have R3 := R2.iter (tk := s2.toks + 1) (p' := MOP B Z2 φ2 (.dict [(i, x)])) hsb.extBut ho' ⟨[(i, y)], hp', .cons ry .nil⟩
  have R4 := R3.adopt (by simp)
  exact ⟨Z2, _, _, .ref σ2.led.length, ⟨(x1.trans x2).z, (x1.trans x2).p.trans (List.prefix_append _ _)⟩, .ref (by rw [← R2.len]; simp), R4, h2⟩
end Mine
end
section
open PySem PySem.W PyProof.Rows PySem.SeqAt
set_option Elab.async false
set_option linter.unusedVariables false
set_option maxRecDepth 100000
namespace Mine
variable {B : Base} {F : Frm} {σ : St} {Q : AV → St → Prop} {Qn : St → Prop} {Qr : AV → St → Prop}
def sN (i : Nat) : Option Stmt := PySem.Challenge.pw_rl0096_01.main.body[i]?
def fBody : Option Stmt → List Stmt
  | some (.FunctionDef _ _ b _ _ _ _ _ _ _) => b
  | _ => []
def fArgs : Option Stmt → Arguments
  | some (.FunctionDef _ a _ _ _ _ _ _ _ _) => a
  | _ => ⟨[], [], none, [], [], none, []⟩
def fScope : Option Stmt → Scope
  | some (.FunctionDef _ _ _ _ _ _ s _ _ _) => s
  | _ => ⟨.function, [], false, false, []⟩

/-- a def of the top, by its place -/
def Def (B : Base) (f : String) (i : Nat) (c : Addr) (P : Value → Value → Prop) : Prop := DefAt B f (fArgs (sN i)) (fBody (sN i)) (fScope (sN i)) c (Str.ofString f) P
/-- the defaults (0, None) -/
def Dflt (B : Base) (dV kV : Value) : Prop := ∃ T o t n, dV = .ref T ∧ B.H.get? T = some o ∧ (∀ t ∈ B.tabs, t.P ≠ T) ∧ o.data = .seq #[.int 0 t, .none] n

/-- a key function's contract -/
inductive lamSpec (f : AV → Option Int) (args : List AV) (kws : List (Str × AV)) (led : List MO) (Q : AV → List MO → Prop) : Prop
  | mk : kws = [] → ∀ v i, args = [v] → f v = some i → Q (.int i) led → lamSpec f args kws led Q

structure Rank (ks : List Int) (x : Int) (r : Nat) : Prop where
  le : r ≤ ks.length
  lt : ∀ (i : Nat) k, i < r → ks[i]? = some k → k < x
  ge : ∀ (i : Nat) k, r ≤ i → ks[i]? = some k → x ≤ k

inductive bisSpec (B : Base) (ht : Nat) (args : List AV) (kws : List (Str × AV)) (led : List MO) (Q : AV → List MO → Prop) : Prop
  | mk : ∀ a x lam l ks f, (args = [a, .int x] ∨ args = [a, .int x, .int 0, .none]) → kws = [(Str.ofString "key", lam)] → LstOf led a l → l.map f = ks.map some → ks.length ≤ 1000 → ks.Pairwise (· ≤ ·) → IsF lam → SpecOK B ht lam (lamSpec f) → (∀ r, Rank ks x r → Q (.int (r : Nat)) led) → bisSpec B ht args kws led Q

theorem binds_2 {B : Base} {Z E s v1 v2 k dV kV name doc pm an c ct} (I : Inv B Z E s) (hd : Dflt B dV kV) : ∃ t,
    BindsTo s (fnOf name (Str.ofString "bisect_left") (fArgs (sN 2)) (fBody (sN 2)) (fScope (sN 2)) dV kV doc pm an (.ref c) ct) ⟨[v1, v2], [(Str.ofString "key", k)]⟩
      [(Str.ofString "a", v1), (Str.ofString "x", v2), (Str.ofString "lo", .int 0 t), (Str.ofString "hi", .none), (Str.ofString "key", k)] := by
  obtain ⟨T, o, t, n, rfl, ho, ht, hs⟩ := hd
  exact ⟨t, BindsTo.of_defaults (T := T) rfl (I.fz _ _ (I.base _ _ ho ht)) hs rfl rfl⟩
theorem binds_4 {B : Base} {Z E s v1 v2 v3 v4 k dV kV name doc pm an c ct} (I : Inv B Z E s) (hd : Dflt B dV kV) :
    BindsTo s (fnOf name (Str.ofString "bisect_left") (fArgs (sN 2)) (fBody (sN 2)) (fScope (sN 2)) dV kV doc pm an (.ref c) ct) ⟨[v1, v2, v3, v4], [(Str.ofString "key", k)]⟩
      [(Str.ofString "a", v1), (Str.ofString "x", v2), (Str.ofString "lo", v3), (Str.ofString "hi", v4), (Str.ofString "key", k)] := by
  obtain ⟨T, o, t, n, rfl, ho, ht, hs⟩ := hd
  exact BindsTo.of_defaults (T := T) rfl (I.fz _ _ (I.base _ _ ho ht)) hs rfl rfl
theorem binds_i {B : Base} {Z E s v1 v2 k dV kV name doc pm an c ct} (I : Inv B Z E s) (hd : Dflt B dV kV) : ∃ t,
    BindsTo s (fnOf name (Str.ofString "insort_left") (fArgs (sN 1)) (fBody (sN 1)) (fScope (sN 1)) dV kV doc pm an (.ref c) ct) ⟨[v1, v2], [(Str.ofString "key", k)]⟩
      [(Str.ofString "a", v1), (Str.ofString "x", v2), (Str.ofString "lo", .int 0 t), (Str.ofString "hi", .none), (Str.ofString "key", k)] := by
  obtain ⟨T, o, t, n, rfl, ho, ht, hs⟩ := hd
  exact ⟨t, BindsTo.of_defaults (T := T) rfl (I.fz _ _ (I.base _ _ ho ht)) hs rfl rfl⟩

end Mine
end
section
open PySem PySem.W PyProof.Rows PySem.SeqAt
set_option Elab.async false
set_option linter.unusedVariables false
set_option maxRecDepth 100000
namespace Mine
variable {B : Base} {F : Frm} {σ : St} {Q : AV → St → Prop} {Qn : St → Prop} {Qr : AV → St → Prop}
local macro_rules | `(tactic| none_booked) => `(tactic| (with_unfolding_all (first | decide +kernel | (dsimp only; decide +kernel))))
local macro_rules | `(tactic| one_sign) => `(tactic| first | exact get_hd | (refine get_tl (nm (by decide)) ?_; one_sign))
local macro_rules | `(tactic| leaf_len) => `(tactic| first | exact SetTo.nil | exact SetTo.hd | (apply SetTo.tl; exact nm (by decide); leaf_len))
local macro_rules | `(tactic| top_name) => `(tactic| with_reducible first
  | refine s_cons ?_
  | refine s_if ?_
  | refine s_return ?_
  | refine s_assign ?_ (fun _ => by with_unfolding_all rfl)
  | refine b_compare ?_ (by with_unfolding_all rfl)
  | refine r_int ?_ | refine r_str ?_ | refine r_none ?_
  | refine r_local (by none_booked) (by one_sign) ?_ (by none_booked)
  | refine r_binop ?_ | refine r_unop ?_ | refine r_compare ?_ (by with_unfolding_all rfl) | refine r_ifexp ?_
  | refine o_add ?_ | refine o_sub ?_ | refine o_neg ?_
  | refine c_lt ?_ | refine c_le ?_ | refine c_gt ?_ | refine c_ge ?_ | refine c_eq ?_ | refine c_isNone_self ?_
  | refine t_bool ?_ | refine t_int ?_
  | refine w_store (by none_booked) (by leaf_len) ?_
  | refine r_sub ?_ (fun _ _ => by with_unfolding_all rfl)
  | refine l_cons ?_ (fun _ => by with_unfolding_all rfl) | refine l_nil ?_
  | rw [if_pos rfl]
  | refine s_nil ?_)

theorem get_pre (l m : List (Str × AV)) : ∀ x av, get l x = some av → get (l ++ m) x = some av := by
  induction l with
  | nil => intro x av e; cases e
  | cons p r ih =>
    intro x av e
    obtain ⟨k, v⟩ := p
    simp only [get, List.cons_append] at e ⊢
    split at e
    · rename_i h; rw [if_pos h]; exact e
    · rename_i h; rw [if_neg h]; exact ih x av e
theorem loc_names {sc : Scope} {cb : List (Str × Value)} (ns : List Str) (h : ∀ n ∈ ns, sc.names.lookup n = some .local) (e : cb.map (·.1) = ns) : ∀ x ∈ cb, sc.names.lookup x.1 = some .local := fun x hx => h _ (e ▸ List.mem_map_of_mem hx)
theorem nd_names {cb : List (Str × Value)} (ns : List Str) (h : ns.Nodup) (e : cb.map (·.1) = ns) : (cb.map (·.1)).Nodup := e ▸ h
theorem Rank.exists {ks : List Int} {x : Int} (h : ks.Pairwise (· ≤ ·)) {lo : Nat} (hle : lo ≤ ks.length) (h1 : ∀ (i : Nat) k, i < lo → ks[i]? = some k → k < x) (h2 : ∀ (i : Nat) k, lo ≤ i → ks[i]? = some k → x ≤ k) : Rank ks x lo := ⟨hle, h1, h2⟩
theorem pw_get {ks : List Int} (h : ks.Pairwise (· ≤ ·)) {i j : Nat} {a b : Int} (hij : i ≤ j) (hi : ks[i]? = some a) (hj : ks[j]? = some b) : a ≤ b := by
  obtain ⟨hi', rfl⟩ := List.getElem?_eq_some_iff.mp hi
  obtain ⟨hj', rfl⟩ := List.getElem?_eq_some_iff.mp hj
  rcases Nat.lt_or_eq_of_le hij with h' | h'
  · exact List.pairwise_iff_getElem.mp h i j hi' hj' h'
  · subst h'; exact Int.le_refl _

theorem bisect_walk {c q ht a x lam l ks f led} (hlam : IsF lam) (hl : LstOf led a l) (hk : l.map f = ks.map some) (hz : ks.length ≤ 1000) (hs : ks.Pairwise (· ≤ ·)) (hok : SpecOK B ht lam (lamSpec f)) (hlen : GlobIs B "len" (.bi "len"))
    (h : ∀ r loc, Rank ks x r → Qr (.int (r : Nat)) ⟨loc, led⟩) :
    WSs B ⟨fScope (sN 2), some (c, q), ht⟩ (fBody (sN 2)) Qn Qr ⟨[("a", a), ("x", .int x), ("lo", .int 0), ("hi", .none), ("key", lam)], led⟩ := by
  have hll : l.length = ks.length := by have := congrArg List.length hk; simpa using this
  refine s_cons ?_
  repeat top_name
  rw [if_neg (by simp)]
  repeat top_name
  refine r_callb ?_ (fun _ => rfl) (fun _ => rfl)
  refine r_global (by none_booked) hlen ?_ (by decide +kernel)
  refine ⟨_, rfl, ?_⟩
  repeat top_name
  refine k_len (l := l) hl (ar15 hz hll) ?_
  repeat top_name
  have nf : lam ≠ .none ∧ ∀ id, lam ≠ .bi id := by cases hlam <;> exact ⟨by simp, by simp⟩
  refine c_isNone_other nf.1 nf.2 ?_
  repeat top_name
  rw [if_neg (by simp)]
  repeat top_name
  refine s_while (fun n σ1 => ∃ lo hi : Nat, n = hi - lo ∧ lo ≤ hi ∧ hi ≤ ks.length ∧ (∀ (i : Nat) k, i < lo → ks[i]? = some k → k < x) ∧ (∀ (i : Nat) k, hi ≤ i → ks[i]? = some k → x ≤ k) ∧
    σ1 = ⟨[("a", a), ("x", .int x), ("lo", .int lo), ("hi", .int hi), ("key", lam)], led⟩) ks.length ⟨0, l.length, (ar467 hll), ar4, (ar93 hll), by lia, fun i k hi e => ?_, rfl⟩ ?_
  · rw [List.getElem?_eq_none (ar468 hll hi)] at e; cases e
  · rintro n σ1 ⟨lo, hi, rfl, hlh, hhi, g1, g2, rfl⟩ -
    repeat top_name
    by_cases hc : (lo : Int) < hi
    · have hc' : lo < hi := ar469 hc
      simp only [hc, decide_true, if_true]
      repeat top_name
      refine o_div (by constructor) (by constructor) ?_
      have hmid : ((lo : Int) + hi) / 2 = ((lo + hi) / 2 : Nat) := ar470
      rw [hmid]
      generalize hm : (lo + hi) / 2 = mid
      have m1 : lo ≤ mid := ar114 hlh hm
      have m2 : mid < hi := ar471 hc hm
      have hml : mid < ks.length := ar472 hhi hc hm
      have hkm : ks[mid]? = some ks[mid] := List.getElem?_eq_getElem hml
      have hlm : l[mid]? = some l[mid] := List.getElem?_eq_getElem (ar8 hll hhi hc hm)
      have hfm : f l[mid] = some ks[mid] := by
        have := congrArg (fun z : List (Option Int) => z[mid]?) hk
        simpa [hml, show mid < l.length from ar8 hll hhi hc hm] using this
      repeat top_name
      refine r_callf ?_ (fun _ => rfl)
      repeat top_name
      refine ⟨hlam, ?_⟩
      repeat top_name
      refine ix_list (l := l) (x := l[mid]) hl (ar0) (ar473 hz hlh hhi hm) (by assumption) ?_
      repeat top_name
      refine ⟨lamSpec f, ht, hok, Nat.le_refl _, rfl, l[mid], ks[mid], rfl, hfm, ?_⟩
      repeat top_name
      by_cases hb : ks[mid] < x
      · simp only [hb, decide_true, if_true]
        repeat top_name
        refine ⟨hi - (mid + 1), ⟨[("a", a), ("x", .int x), ("lo", .int ((mid + 1 : Nat) : Int)), ("hi", .int hi), ("key", lam)], led⟩, (ar474 hc hm), ?_, Nat.le_refl _, mid + 1, hi, rfl, (ar475 hc hm), hhi, fun i k hi' e => ?_, g2, rfl⟩
        · exact .names (get_pre _ _) (.refl _)
        · have := pw_get hs (show i ≤ mid from ar476 hi') e hkm; exact ar477 hml hb this
      · simp only [hb, decide_false]
        rw [if_neg (by simp)]
        repeat top_name
        refine ⟨mid - lo, ⟨[("a", a), ("x", .int x), ("lo", .int lo), ("hi", .int (mid : Nat)), ("key", lam)], led⟩, (ar478 hc hm), ?_, Nat.le_refl _, lo, mid, rfl, (ar114 hlh hm), (ar479 hlh hhi hm), g1, fun i k hi' e => ?_, rfl⟩
        · exact .names (get_pre _ _) (.refl _)
        · have := pw_get hs hi' hkm e; exact ar480 hml hb this
    · simp only [hc, decide_false]
      rw [if_neg (by simp)]
      have : lo = hi := ar481 hlh hc
      subst this
      repeat top_name
      exact h lo _ ⟨hhi, g1, g2⟩

theorem bisect_ok {c ht} (D : Def B "bisect_left" 2 c (Dflt B)) (hlen : GlobIs B "len" (.bi "len")) : SpecOK B (ht + 1) (.fn "bisect_left") (bisSpec B ht) := by
  refine spec_def D (by decide +kernel) (by decide +kernel) (by decide +kernel) (by decide +kernel) ?_
  intro Z φ E s vs ks args kws led Q name dV kV doc pm an ct hP I rv rk ⟨a, x, lam, l, kys, f, ha, hkw, hl, hm, hz, hs, hF, hok, hq⟩
  subst hkw
  replace rk := rk.cons_i; obtain ⟨kv, _, rfl, rk, rk'⟩ := rk
  obtain rfl := rk'.nil_i
  have fin : ∀ (r : Nat) loc, Rank kys x r → Aft Q led (AV.int (r : Nat)) (St.mk loc led).led := fun r loc hr => ⟨_, led, .refl _ _, Nat.le_refl _, hq r hr⟩
  rcases ha with rfl | rfl
  · replace rv := rv.cons_i; obtain ⟨v1, _, rfl, r1, rv⟩ := rv
    replace rv := rv.cons_i; obtain ⟨v2, _, rfl, r2, rv⟩ := rv
    obtain rfl := rv.nil_i
    obtain ⟨t, hb⟩ := binds_2 (v1 := v1) (v2 := v2) (k := kv) (name := name) (doc := doc) (pm := pm) (an := an) (c := c) (ct := ct) I hP
    exact ⟨_, [("a", a), ("x", .int x), ("lo", .int 0), ("hi", .none), ("key", lam)], hb, .cons r1 (.cons r2 (.cons (.int ..) (.cons .none (.cons rk .nil)))), nd_names ["a", "x", "lo", "hi", "key"] (by decide +kernel) rfl, loc_names ["a", "x", "lo", "hi", "key"] (by decide +kernel) rfl,
      bisect_walk hF hl hm hz hs hok hlen fin⟩
  · replace rv := rv.cons_i; obtain ⟨v1, _, rfl, r1, rv⟩ := rv
    replace rv := rv.cons_i; obtain ⟨v2, _, rfl, r2, rv⟩ := rv
    replace rv := rv.cons_i; obtain ⟨v3, _, rfl, r3, rv⟩ := rv
    replace rv := rv.cons_i; obtain ⟨v4, _, rfl, r4, rv⟩ := rv
    obtain rfl := rv.nil_i
    have hb := binds_4 (v1 := v1) (v2 := v2) (v3 := v3) (v4 := v4) (k := kv) (name := name) (doc := doc) (pm := pm) (an := an) (c := c) (ct := ct) I hP
    exact ⟨_, [("a", a), ("x", .int x), ("lo", .int 0), ("hi", .none), ("key", lam)], hb, .cons r1 (.cons r2 (.cons r3 (.cons r4 (.cons rk .nil)))), nd_names ["a", "x", "lo", "hi", "key"] (by decide +kernel) rfl, loc_names ["a", "x", "lo", "hi", "key"] (by decide +kernel) rfl,
      bisect_walk hF hl hm hz hs hok hlen fin⟩
end Mine
end
section
open PySem PySem.W PyProof.Rows
set_option Elab.async false
set_option linter.unusedVariables false
namespace Mine
/-! ### the sort's questions, answered by ints -/
variable (e : Nat → Int)
def ltI (i j : Nat) : Bool := decide (e i < e j)
def krun {α : Type} (lt : Nat → Nat → Bool) : KasT α → α
  | .ret a => a
  | .ask i j k => krun lt (k (lt i j))
theorem krun_bind {α β : Type} (lt : Nat → Nat → Bool) (f : α → KasT β) : ∀ t : KasT α, krun lt (t.bind f) = krun lt (f (krun lt t))
  | .ret _ => rfl
  | .ask i j k => krun_bind lt f (k (lt i j))
theorem krun_wp {α : Type} {lt : Nat → Nat → Bool} {cmp : Nat → Nat → (Bool → Shared → Prop) → Shared → Prop} {J : Shared → Prop} {ok : Nat → Prop}
    (hc : ∀ i j (C : Bool → Shared → Prop) s, J s → (∀ s', J s' → C (lt i j) s') → cmp i j C s) : ∀ (t : KasT α) (Q : α → Shared → Prop) (s : Shared), J s → (∀ s', J s' → Q (krun lt t) s') → t.kasWp cmp Q s
  | .ret a, Q, s, hj, hq => hq s hj
  | .ask i j k, Q, s, hj, hq => hc i j _ s hj fun s' hj' => krun_wp (ok := ok) hc (k (lt i j)) Q s' hj' hq

def Kp (p : Array Nat) (i : Nat) : Int := e (p.getD i 0)
theorem Kp_congr {p q : Array Nat} {i j : Nat} (h : p[i]? = q[j]?) : Kp e p i = Kp e q j := by
  unfold Kp; rw [Array.getD_eq_getD_getElem?, Array.getD_eq_getD_getElem?, h]
theorem Kp_bubble {p : Array Nat} {src d : Nat} (hs : src < p.size) (hd : d ≤ src) (k : Nat) :
    Kp e (bubble p src d) k = if k = src - d then Kp e p src else if src - d < k ∧ k ≤ src then Kp e p (k - 1) else Kp e p k := by
  have h := getElem?_bubble hs d hd k
  by_cases h1 : k = src - d
  · rw [if_pos h1] at h ⊢; exact Kp_congr e h
  · rw [if_neg h1] at h ⊢
    by_cases h2 : src - d < k ∧ k ≤ src
    · rw [if_pos h2] at h ⊢; exact Kp_congr e h
    · rw [if_neg h2] at h ⊢; exact Kp_congr e h
theorem rev_perm (p : Array Nat) (i j : Nat) : (kas_rev p i j).Perm p := mirror_perm _ _ _ _
theorem rev_size (p : Array Nat) (i j : Nat) : (kas_rev p i j).size = p.size := mirror_size _ _ _ _
theorem Kp_rev {p : Array Nat} {i j : Nat} (hj : j ≤ p.size) (k : Nat) : Kp e (kas_rev p i j) k = if i ≤ k ∧ k < j then Kp e p (i + (j - 1 - k)) else Kp e p k := by
  have h := getElem?_mirror_all (xs := p) (i := i) (j := j) hj k
  by_cases c : i ≤ k ∧ k < j
  · rw [if_pos c] at h ⊢
    exact Kp_congr e (show (kas_rev p i j)[k]? = p[i + (j - 1 - k)]? from h.trans (by congr 1; exact ar175 c))
  · rw [if_neg c] at h ⊢
    exact Kp_congr e h
theorem Kp_rev_eq {p : Array Nat} {i j : Nat} (hj : j ≤ p.size) (heq : ∀ k, i ≤ k → k < j → Kp e p k = Kp e p (j - 1)) (k : Nat) : Kp e (kas_rev p i j) k = Kp e p k := by
  rw [Kp_rev e hj]
  split
  · rename_i c
    rw [heq k c.1 c.2, heq (i + (j - 1 - k)) (ar176) (ar177 c)]
  · rfl

def Asc (p : Array Nat) (n : Nat) : Prop := ∀ i j, i ≤ j → j < n → Kp e p i ≤ Kp e p j
def Dec (p : Array Nat) (n : Nat) : Prop := ∀ i j, i ≤ j → j < n → Kp e p j ≤ Kp e p i
theorem Asc.ext {p : Array Nat} {n : Nat} (h : Asc e p n) (hn : 1 ≤ n) (g : Kp e p (n - 1) ≤ Kp e p n) : Asc e p (n + 1) := fun i j hij hj => by
  by_cases c : j < n
  · exact h i j hij c
  · have hj' : j = n := ar57 hj c
    subst hj'
    by_cases d : i = j
    · subst d; exact Int.le_refl _
    · have := h i (j - 1) (ar58 hij d) (ar25 hn); exact ar6 g this
theorem Dec.ext {p : Array Nat} {n : Nat} (h : Dec e p n) (hn : 1 ≤ n) (g : Kp e p n ≤ Kp e p (n - 1)) : Dec e p (n + 1) := fun i j hij hj => by
  by_cases c : j < n
  · exact h i j hij c
  · have hj' : j = n := ar57 hj c
    subst hj'
    by_cases d : i = j
    · subst d; exact Int.le_refl _
    · have := h i (j - 1) (ar58 hij d) (ar25 hn); exact ar59 g this
theorem Dec.congr {p q : Array Nat} {n : Nat} (h : Dec e p n) (g : ∀ k, Kp e q k = Kp e p k) : Dec e q n := fun i j hij hj => by rw [g, g]; exact h i j hij hj

theorem asc_ok : ∀ (f : Nat) (p : Array Nat) (n : Nat), 1 ≤ n → Asc e p n → ∃ m, krun (ltI e) (kas_asc p f n) = m ∧ n ≤ m ∧ m ≤ n + f ∧ Asc e p m ∧ (m < n + f → Kp e p m < Kp e p (m - 1))
  | 0, p, n, h1, h => ⟨n, rfl, Nat.le_refl _, Nat.le_refl _, h, fun c => absurd c (Nat.lt_irrefl _)⟩
  | f + 1, p, n, h1, h => by
    show ∃ m, krun (ltI e) (if ltI e (p.getD n 0) (p.getD (n - 1) 0) = true then _ else _) = m ∧ _
    by_cases c : Kp e p n < Kp e p (n - 1)
    · rw [if_pos (show ltI e (p.getD n 0) (p.getD (n - 1) 0) = true from decide_eq_true c)]
      exact ⟨n, rfl, Nat.le_refl _, ar60, h, fun _ => c⟩
    · rw [if_neg (show ¬ ltI e (p.getD n 0) (p.getD (n - 1) 0) = true from fun q => c (of_decide_eq_true q))]
      obtain ⟨m, a1, a2, a3, a4, a5⟩ := asc_ok f p (n + 1) (ar178) (h.ext e h1 (ar26 c))
      exact ⟨m, a1, (ar2 a2), (ar10 a3), a4, fun q => a5 (ar179 q)⟩

structure DescOk (p p' : Array Nat) (n' q' : Nat) : Prop where
  perm : p'.Perm p
  size : p'.size = p.size
  dec : Dec e p' n'
  q : q' + 1 ≤ n'
  eq : ∀ k, n' - (q' + 1) ≤ k → k < n' → Kp e p' k = Kp e p' (n' - 1)
theorem desc_ok : ∀ (f : Nat) (p : Array Nat) (n q : Nat), n + f ≤ p.size → q + 1 ≤ n → Dec e p n → (∀ k, n - (q + 1) ≤ k → k < n → Kp e p k = Kp e p (n - 1)) →
    ∃ p' n' q', krun (ltI e) (kas_desc f p n q) = (p', n', q') ∧ n ≤ n' ∧ n' ≤ n + f ∧ DescOk e p p' n' q'
  | 0, p, n, q, hs, hq, hd, he => ⟨p, n, q, rfl, Nat.le_refl _, Nat.le_refl _, .refl _, rfl, hd, hq, he⟩
  | f + 1, p, n, q, hs, hq, hd, he => by
    show ∃ p' n' q', krun (ltI e) (if ltI e (p.getD n 0) (p.getD (n - 1) 0) = true then _ else _) = (p', n', q') ∧ _
    by_cases c : Kp e p n < Kp e p (n - 1)
    · rw [if_pos (show ltI e (p.getD n 0) (p.getD (n - 1) 0) = true from decide_eq_true c)]
      by_cases c2 : q > 0
      · rw [if_pos c2]
        have hk := Kp_rev_eq e (p := p) (i := n - (q + 1)) (j := n) (ar180 hs) (fun k a b => he k a b)
        have hd' : Dec e (kas_rev p (n - (q + 1)) n) (n + 1) := (hd.ext e (ar9 hq) (ar22 c)).congr e hk
        obtain ⟨p', n', q', a1, a2, a3, a4⟩ := desc_ok f (kas_rev p (n - (q + 1)) n) (n + 1) 0 (by rw [rev_size]; exact ar11 hs) (ar27) hd' (fun k a b => by rw [show k = n + 1 - 1 from ar28 a b])
        exact ⟨p', n', q', a1, (ar2 a2), (ar10 a3), a4.perm.trans (rev_perm _ _ _), a4.size.trans (rev_size _ _ _), a4.dec, a4.q, a4.eq⟩
      · rw [if_neg c2]
        obtain ⟨p', n', q', a1, a2, a3, a4⟩ := desc_ok f p (n + 1) 0 (ar11 hs) (ar27) (hd.ext e (ar9 hq) (ar22 c)) (fun k a b => by rw [show k = n + 1 - 1 from ar28 a b])
        exact ⟨p', n', q', a1, (ar2 a2), (ar10 a3), a4⟩
    · rw [if_neg (show ¬ ltI e (p.getD n 0) (p.getD (n - 1) 0) = true from fun q => c (of_decide_eq_true q))]
      show ∃ p' n' q', krun (ltI e) (if ltI e (p.getD (n - 1) 0) (p.getD n 0) = true then _ else _) = (p', n', q') ∧ _
      by_cases c2 : Kp e p (n - 1) < Kp e p n
      · rw [if_pos (show ltI e (p.getD (n - 1) 0) (p.getD n 0) = true from decide_eq_true c2)]
        exact ⟨p, n, q, rfl, Nat.le_refl _, ar60, .refl _, rfl, hd, hq, he⟩
      · rw [if_neg (show ¬ ltI e (p.getD (n - 1) 0) (p.getD n 0) = true from fun q => c2 (of_decide_eq_true q))]
        obtain ⟨p', n', q', a1, a2, a3, a4⟩ := desc_ok f p (n + 1) (q + 1) (ar11 hs) (ar181 hq) (hd.ext e (ar9 hq) (ar26 c2)) (fun k a b => by
          have h1 : Kp e p (n + 1 - 1) = Kp e p (n - 1) := by rw [show n + 1 - 1 = n from ar182]; exact ar61 c c2
          rw [h1]
          by_cases d : k = n
          · subst d; exact ar61 c c2
          · exact he k (ar183 a) (ar29 b d))
        exact ⟨p', n', q', a1, (ar2 a2), (ar10 a3), a4⟩

theorem tail_ok {p : Array Nat} {n nrem : Nat} (h1 : 1 ≤ n) (hn : n ≤ nrem) (hs : nrem ≤ p.size) (hd : Dec e p n) : ∃ m p', krun (ltI e) (kas_tail3 n nrem p) = (m, p') ∧ p'.Perm p ∧ 1 ≤ m ∧ m ≤ nrem ∧ Asc e p' m := by
  have ha : Asc e (kas_rev p 0 n) n := fun i j hij hj => by
    rw [Kp_rev e (ar62 hn hs), Kp_rev e (ar62 hn hs), if_pos (ar184 hij hj), if_pos (ar185 hj)]
    exact hd _ _ (ar186 hij) (ar187 h1)
  obtain ⟨m, a1, a2, a3, a4, _⟩ := asc_ok e (nrem - n) (kas_rev p 0 n) n h1 ha
  refine ⟨m, kas_rev p 0 n, ?_, rev_perm _ _ _, (ar188 h1 a2), (ar189 hn a3), a4⟩
  unfold kas_tail3
  rw [krun_bind, a1]; rfl
theorem descPart_ok {p : Array Nat} {n nrem : Nat} (h1 : 1 ≤ n) (hn : n + 1 ≤ nrem) (hs : nrem ≤ p.size) (hd : Dec e p (n + 1)) : ∃ m p', krun (ltI e) (kas_descPart n nrem p) = (m, p') ∧ p'.Perm p ∧ 1 ≤ m ∧ m ≤ nrem ∧ Asc e p' m := by
  obtain ⟨p', n', q', a1, a2, a3, a4⟩ := desc_ok e (nrem - (n + 1)) p (n + 1) 0 (ar190 hn hs) (ar27) hd (fun k a b => by rw [show k = n + 1 - 1 from ar28 a b])
  unfold kas_descPart
  rw [krun_bind, a1]
  dsimp only
  by_cases c : q' > 0
  · rw [if_pos c]
    have hk := Kp_rev_eq e (p := p') (i := n' - (q' + 1)) (j := n') (by rw [a4.size]; exact ar191 hn hs a3) a4.eq
    obtain ⟨m, p2, b1, b2, b3, b4, b5⟩ := tail_ok e (p := kas_rev p' (n' - (q' + 1)) n') (n := n') (nrem := nrem) (ar9 a2) (ar63 hn a3) (by rw [rev_size, a4.size]; exact hs) (a4.dec.congr e hk)
    exact ⟨m, p2, b1, b2.trans ((rev_perm _ _ _).trans a4.perm), b3, b4, b5⟩
  · rw [if_neg c]
    obtain ⟨m, p2, b1, b2, b3, b4, b5⟩ := tail_ok e (p := p') (n := n') (nrem := nrem) (ar9 a2) (ar63 hn a3) (by rw [a4.size]; exact hs) a4.dec
    exact ⟨m, p2, b1, b2.trans a4.perm, b3, b4, b5⟩
theorem count_ok {p : Array Nat} {nrem : Nat} (h1 : 1 ≤ nrem) (hs : nrem ≤ p.size) : ∃ m p', krun (ltI e) (kas_count nrem p) = (m, p') ∧ p'.Perm p ∧ 1 ≤ m ∧ m ≤ nrem ∧ Asc e p' m := by
  obtain ⟨n, a1, a2, a3, a4, a5⟩ := asc_ok e (nrem - 1) p 1 (Nat.le_refl _) (fun i j _ _ => by rw [show i = j from ar64 (by assumption) (by assumption)]; exact Int.le_refl _)
  unfold kas_count
  rw [krun_bind, a1]
  by_cases c : n = nrem
  · rw [if_pos (by simpa using c)]
    exact ⟨n, p, rfl, .refl _, a2, (ar65 h1 a3), a4⟩
  · rw [if_neg (by simpa using c)]
    have hlt := a5 (ar192 h1 a3 c)
    by_cases c2 : n > 1
    · rw [if_pos c2]
      show ∃ m p', krun (ltI e) (if ltI e (p.getD 0 0) (p.getD (n - 1) 0) = true then _ else _) = (m, p') ∧ _
      by_cases c3 : Kp e p 0 < Kp e p (n - 1)
      · rw [if_pos (show ltI e (p.getD 0 0) (p.getD (n - 1) 0) = true from decide_eq_true c3)]
        exact ⟨n, p, rfl, .refl _, a2, (ar65 h1 a3), a4⟩
      · rw [if_neg (show ¬ ltI e (p.getD 0 0) (p.getD (n - 1) 0) = true from fun q => c3 (of_decide_eq_true q))]
        have heq : ∀ k, 0 ≤ k → k < n → Kp e p k = Kp e p (n - 1) := fun k _ hk => by
          have := a4 0 k (ar4) hk
          have := a4 k (n - 1) (ar193 hk) (ar25 a2)
          exact ar194 c3 (by assumption) this
        have hk := Kp_rev_eq e (p := p) (i := 0) (j := n) (ar195 h1 hs a3) heq
        have hd : Dec e p (n + 1) := Dec.ext e (fun i j hij hj => by rw [heq i (ar4) (ar196 hij hj), heq j (ar4) hj]; exact Int.le_refl _) (a2) (ar197 h1 a3 a5 c)
        obtain ⟨m, p2, b1, b2, b3, b4, b5⟩ := descPart_ok e (p := kas_rev p 0 n) (n := n) (nrem := nrem) (a2) (ar198 h1 a3 c) (by rw [rev_size]; exact hs) (hd.congr e hk)
        exact ⟨m, p2, b1, b2.trans (rev_perm _ _ _), b3, b4, b5⟩
    · rw [if_neg c2]
      have hn1 : n = 1 := ar199 a2 c2
      subst hn1
      exact descPart_ok e (Nat.le_refl _) (ar200 h1 c) hs (Dec.ext e (fun i j _ _ => by rw [show i = j from ar64 (by assumption) (by assumption)]; exact Int.le_refl _) (Nat.le_refl _) (ar201 h1 a5 c))
theorem place_ok {p : Array Nat} {k : Nat} (ha : Asc e p k) : ∀ (f l r : Nat), r - l ≤ f → l ≤ r → r ≤ k → (∀ i, i < l → Kp e p i ≤ Kp e p k) → (∀ i, r ≤ i → i < k → Kp e p k < Kp e p i) →
    ∃ m, krun (ltI e) (kas_place p k f l r) = m ∧ m ≤ k ∧ (∀ i, i < m → Kp e p i ≤ Kp e p k) ∧ (∀ i, m ≤ i → i < k → Kp e p k < Kp e p i)
  | 0, l, r, hf, hlr, hrk, h1, h2 => by
    have : l = r := ar202 hf hlr
    subst this
    exact ⟨l, rfl, hrk, h1, h2⟩
  | f + 1, l, r, hf, hlr, hrk, h1, h2 => by
    unfold kas_place
    by_cases c : l ≥ r
    · rw [if_pos c]
      have : l = r := ar30 hlr c
      subst this
      exact ⟨l, rfl, hrk, h1, h2⟩
    · rw [if_neg c]
      show ∃ m, krun (ltI e) (if ltI e (p.getD k 0) (p.getD ((l + r) / 2) 0) = true then _ else _) = m ∧ _
      by_cases c2 : Kp e p k < Kp e p ((l + r) / 2)
      · rw [if_pos (show ltI e (p.getD k 0) (p.getD ((l + r) / 2) 0) = true from decide_eq_true c2)]
        exact place_ok ha f l ((l + r) / 2) (ar203 hf) (ar204 hlr) (ar205 hlr hrk) h1 fun i hi hik => by
          have := ha ((l + r) / 2) i hi hik
          exact ar67 c2 this
      · rw [if_neg (show ¬ ltI e (p.getD k 0) (p.getD ((l + r) / 2) 0) = true from fun q => c2 (of_decide_eq_true q))]
        exact place_ok ha f ((l + r) / 2 + 1) r (ar206 hf) (ar207 c) hrk (fun i hi => by
          have := ha i ((l + r) / 2) (ar208 hi) (ar209 hrk c)
          exact ar210 c2 this) h2
theorem bin_ok : ∀ (f : Nat) (p : Array Nat) (k : Nat), k + f ≤ p.size → Asc e p k → ∃ p', krun (ltI e) (kas_bin f p k) = p' ∧ p'.Perm p ∧ Asc e p' (k + f)
  | 0, p, k, hs, ha => ⟨p, rfl, .refl _, ha⟩
  | f + 1, p, k, hs, ha => by
    unfold kas_bin
    rw [krun_bind]
    obtain ⟨l, a1, a2, a3, a4⟩ := place_ok e ha k 0 k (ar211) (ar4) (Nat.le_refl _) (fun i hi => absurd hi (Nat.not_lt_zero _)) (fun i hi hik => (ar212 hi hik))
    rw [a1]
    have hb := Kp_bubble e (p := p) (src := k) (d := k - l) (ar213 hs) (ar214)
    have e1 : k - (k - l) = l := ar215 a2
    rw [e1] at hb
    have ha' : Asc e (bubble p k (k - l)) (k + 1) := fun i j hij hj => by
      rw [hb i, hb j]
      by_cases i1 : i = l
      · rw [if_pos i1]
        by_cases j1 : j = l
        · rw [if_pos j1]; exact Int.le_refl _
        · rw [if_neg j1, if_pos (ar216 hij hj i1 j1)]
          exact Int.le_of_lt (a4 (j - 1) (ar217 hij i1 j1) (ar218 a2 hj j1))
      · rw [if_neg i1]
        by_cases i2 : l < i ∧ i ≤ k
        · rw [if_pos i2]
          rw [if_neg (ar219 hij i2), if_pos (ar220 hij hj i2)]
          exact ha _ _ (ar221 hij) (ar68 a2 hij hj i1)
        · rw [if_neg i2]
          have il : i < l := ar222 hij hj i1 i2
          by_cases j1 : j = l
          · rw [if_pos j1]; exact a3 i il
          · rw [if_neg j1]
            by_cases j2 : l < j ∧ j ≤ k
            · rw [if_pos j2]; exact ha _ _ (ar223 hij i2 j2) (ar68 a2 hij hj i1)
            · rw [if_neg j2]; exact ha _ _ hij (ar224 a2 hj j1 j2)
    obtain ⟨p', b1, b2, b3⟩ := bin_ok f (bubble p k (k - l)) (k + 1) (by rw [bubble_size]; exact ar11 hs) ha'
    exact ⟨p', b1, b2.trans (bubble_perm _ _ _), by rw [show k + (f + 1) = k + 1 + f from ar225]; exact b3⟩
/-- the sort sorts -/
theorem sort_ok {n : Nat} (hn : 1 ≤ n) : ∃ p, krun (ltI e) (kas_sort n) = p ∧ p.Perm (List.range n).toArray ∧ Asc e p n := by
  unfold kas_sort
  rw [krun_bind]
  obtain ⟨m, p', a1, a2, a3, a4, a5⟩ := count_ok e (p := (List.range n).toArray) hn (by simp)
  rw [a1]
  dsimp only
  have hsz : p'.size = n := by rw [a2.size_eq]; simp
  by_cases c : m < n
  · rw [if_pos c]
    have hm : max m 1 = m := ar226 a3
    rw [hm]
    obtain ⟨p2, b1, b2, b3⟩ := bin_ok e (n - m) p' m (ar227 a4 hsz) a5
    exact ⟨p2, b1, b2.trans a2, by rw [show n = m + (n - m) from ar228 a4]; exact b3⟩
  · rw [if_neg c]
    exact ⟨p', rfl, a2, by rw [show n = m from ar229 a4 c]; exact a5⟩

/-! ### the questions stay within the list -/
def KB (n : Nat) {α : Type} (P : α → Prop) : KasT α → Prop
  | .ret a => P a
  | .ask i j k => i < n ∧ j < n ∧ ∀ b, KB n P (k b)
theorem KB.bind {n : Nat} {α β : Type} {P : α → Prop} {P' : β → Prop} {f : α → KasT β} (hf : ∀ a, P a → KB n P' (f a)) : ∀ t : KasT α, KB n P t → KB n P' (t.bind f)
  | .ret a, h => hf a h
  | .ask i j k, h => ⟨h.1, h.2.1, fun b => KB.bind hf (k b) (h.2.2 b)⟩
theorem krun_wp' {n : Nat} {α : Type} {lt : Nat → Nat → Bool} {cmp : Nat → Nat → (Bool → Shared → Prop) → Shared → Prop} {J : Shared → Prop}
    (hc : ∀ i j (C : Bool → Shared → Prop) s, i < n → j < n → J s → (∀ s', J s' → C (lt i j) s') → cmp i j C s) {P : α → Prop} : ∀ (t : KasT α) (Q : α → Shared → Prop) (s : Shared), KB n P t → J s → (∀ s', J s' → Q (krun lt t) s') → t.kasWp cmp Q s
  | .ret a, Q, s, _, hj, hq => hq s hj
  | .ask i j k, Q, s, hb, hj, hq => hc i j _ s hb.1 hb.2.1 hj fun s' hj' => krun_wp' hc (k (lt i j)) Q s' (hb.2.2 _) hj' hq
def Bd (n : Nat) (p : Array Nat) : Prop := 0 < n ∧ ∀ x ∈ p, x < n
theorem Bd.at {n : Nat} {p : Array Nat} (h : Bd n p) (i : Nat) : p.getD i 0 < n := by
  rw [Array.getD_eq_getD_getElem?]
  cases e : p[i]? with
  | none => exact h.1
  | some x => exact h.2 x (Array.mem_of_getElem? e)
theorem Bd.perm {n : Nat} {p q : Array Nat} (h : Bd n p) (g : q.Perm p) : Bd n q := ⟨h.1, fun x hx => h.2 x (g.mem_iff.mp hx)⟩
theorem Bd.rev {n : Nat} {p : Array Nat} (h : Bd n p) (i j : Nat) : Bd n (kas_rev p i j) := h.perm (rev_perm _ _ _)
theorem asc_kb {n : Nat} {p : Array Nat} (h : Bd n p) : ∀ (f k : Nat), KB n (fun _ => True) (kas_asc p f k)
  | 0, k => trivial
  | f + 1, k => ⟨h.at _, h.at _, fun b => by
    cases b
    · exact asc_kb h f (k + 1)
    · exact trivial⟩
theorem desc_kb {n : Nat} : ∀ (f : Nat) (p : Array Nat) (k q : Nat), Bd n p → KB n (fun r : Array Nat × Nat × Nat => Bd n r.1) (kas_desc f p k q)
  | 0, p, k, q, h => h
  | f + 1, p, k, q, h => ⟨h.at _, h.at _, fun b => by
    cases b
    · exact ⟨h.at _, h.at _, fun d => by
        cases d
        · exact desc_kb f p (k + 1) (q + 1) h
        · exact h⟩
    · show KB n _ (if q > 0 then _ else _)
      split
      · exact desc_kb f _ (k + 1) 0 (h.rev _ _)
      · exact desc_kb f p (k + 1) 0 h⟩
theorem tail_kb {n : Nat} {p : Array Nat} (h : Bd n p) (k m : Nat) : KB n (fun r : Nat × Array Nat => Bd n r.2) (kas_tail3 k m p) := by
  unfold kas_tail3
  refine KB.bind (P := fun _ => True) (fun a _ => ?_) _ (asc_kb (h.rev 0 k) _ _)
  exact h.rev 0 k
theorem descPart_kb {n : Nat} {p : Array Nat} (h : Bd n p) (k m : Nat) : KB n (fun r : Nat × Array Nat => Bd n r.2) (kas_descPart k m p) :=
  KB.bind (fun r hr => by
    split
    · exact tail_kb (hr.rev _ _) _ _
    · exact tail_kb hr _ _) _ (desc_kb _ _ _ _ h)
theorem count_kb {n : Nat} {p : Array Nat} (h : Bd n p) (m : Nat) : KB n (fun r : Nat × Array Nat => Bd n r.2) (kas_count m p) :=
  KB.bind (P := fun _ => True) (fun a _ => by
    split
    · exact h
    · split
      · exact ⟨h.at _, h.at _, fun b => by
          cases b
          · exact descPart_kb (h.rev _ _) _ _
          · exact h⟩
      · exact descPart_kb h _ _) _ (asc_kb h _ _)
theorem place_kb {n : Nat} {p : Array Nat} (h : Bd n p) (k : Nat) : ∀ (f l r : Nat), KB n (fun _ => True) (kas_place p k f l r)
  | 0, l, r => trivial
  | f + 1, l, r => by
    unfold kas_place
    split
    · exact trivial
    · exact ⟨h.at _, h.at _, fun b => by
        cases b
        · exact place_kb h k f _ _
        · exact place_kb h k f _ _⟩
theorem bin_kb {n : Nat} : ∀ (f : Nat) (p : Array Nat) (k : Nat), Bd n p → KB n (fun _ => True) (kas_bin f p k)
  | 0, p, k, h => trivial
  | f + 1, p, k, h => by
    unfold kas_bin
    exact KB.bind (P := fun _ => True) (fun l _ => bin_kb f _ _ (h.perm (bubble_perm _ _ _))) _ (place_kb h _ _ _ _)
theorem sort_kb {n : Nat} (hn : 1 ≤ n) : KB n (fun _ => True) (kas_sort n) := by
  have h0 : Bd n (List.range n).toArray := ⟨hn, fun x hx => by simpa using hx⟩
  unfold kas_sort
  exact KB.bind (fun r hr => by
    split
    · exact bin_kb _ _ _ hr
    · exact trivial) _ (count_kb h0 n)

/-! ### pairs, in their order -/
def lexlt (p q : Int × Int) : Bool := decide (p.1 < q.1 ∨ p.1 = q.1 ∧ p.2 < q.2)
def lexle (p q : Int × Int) : Prop := p.1 < q.1 ∨ p.1 = q.1 ∧ p.2 ≤ q.2
def span (l : List (Int × Int)) : Nat := (l.map fun p => p.2.natAbs).sum
theorem span_le {l : List (Int × Int)} {p : Int × Int} (h : p ∈ l) : p.2.natAbs ≤ span l := by
  induction l with
  | nil => cases h
  | cons a r ih =>
    simp only [span, List.map_cons, List.sum_cons]
    rcases List.mem_cons.mp h with rfl | h
    · exact ar230
    · have := ih h; unfold span at this; exact ar231 this
def code (l : List (Int × Int)) (p : Int × Int) : Int := p.1 * (2 * (span l : Int) + 1) + p.2
theorem code_lt {l : List (Int × Int)} {p q : Int × Int} (hp : p ∈ l) (hq : q ∈ l) : lexlt p q = decide (code l p < code l q) := by
  have h1 := span_le hp
  have h2 := span_le hq
  unfold lexlt code
  generalize (span l) = M at *
  obtain ⟨a, b⟩ := p
  obtain ⟨c, d⟩ := q
  dsimp only at *
  rcases Int.lt_trichotomy a c with h | h | h
  · have h3 : (a + 1) * (2 * (M : Int) + 1) ≤ c * (2 * (M : Int) + 1) := Int.mul_le_mul_of_nonneg_right (ar69 h) (ar70)
    rw [Int.add_mul, Int.one_mul] at h3
    have : a * (2 * (M : Int) + 1) + b < c * (2 * (M : Int) + 1) + d := ar232 h1 h2 h3
    simp [h, this]
  · subst h
    have e : (a * (2 * (M : Int) + 1) + b < a * (2 * (M : Int) + 1) + d) ↔ b < d := ar233
    simp [e]
  · have h3 : (c + 1) * (2 * (M : Int) + 1) ≤ a * (2 * (M : Int) + 1) := Int.mul_le_mul_of_nonneg_right (ar69 h) (ar70)
    rw [Int.add_mul, Int.one_mul] at h3
    have n1 : ¬ (a * (2 * (M : Int) + 1) + b < c * (2 * (M : Int) + 1) + d) := ar234 h1 h2 h3
    have n2 : ¬ a < c := ar235 h
    have n3 : ¬ a = c := ar236 h
    simp [n1, n2, n3]
theorem code_le {l : List (Int × Int)} {p q : Int × Int} (hp : p ∈ l) (hq : q ∈ l) (h : code l p ≤ code l q) : lexle p q := by
  have := code_lt hq hp
  rw [show decide (code l q < code l p) = false by simp; exact h] at this
  unfold lexlt at this
  unfold lexle
  simp at this
  exact ar238 this
theorem sort_pairs {l : List (Int × Int)} (hn : 1 ≤ l.length) :
    ∃ p, krun (fun i j => lexlt (l.getD i (0, 0)) (l.getD j (0, 0))) (kas_sort l.length) = p ∧ (p.toList.map fun i => l.getD i (0, 0)).Perm l ∧ (p.toList.map fun i => l.getD i (0, 0)).Pairwise lexle ∧ ∀ i ∈ p.toList, i < l.length := by
  have e0 : ∀ {α : Type} {P : α → Prop} (t : KasT α), KB l.length P t → krun (fun i j => lexlt (l.getD i (0, 0)) (l.getD j (0, 0))) t = krun (ltI fun i => code l (l.getD i (0, 0))) t := by
    intro α P t
    induction t with
    | ret a => intro _; rfl
    | ask i j k ih =>
      intro h
      have hm : ∀ i, i < l.length → l.getD i (0, 0) ∈ l := fun i hi => by
        rw [List.getD_eq_getElem?_getD, List.getElem?_eq_getElem hi]; exact List.getElem_mem hi
      show krun _ (k (lexlt _ _)) = krun _ (k (ltI _ i j))
      rw [code_lt (hm i h.1) (hm j h.2.1)]
      exact ih _ (h.2.2 _)
  obtain ⟨p, h1, h2, h3⟩ := sort_ok (fun i => code l (l.getD i (0, 0))) hn
  have hp : p.toList.Perm (List.range l.length) := by simpa using h2.toList
  have hlt : ∀ i ∈ p.toList, i < l.length := fun i hi => by simpa using hp.mem_iff.mp hi
  refine ⟨p, by rw [e0 _ (sort_kb hn)]; exact h1, ?_, ?_, hlt⟩
  · refine (hp.map _).trans (List.Perm.of_eq ?_)
    apply List.ext_getElem
    · simp
    · intro i a b
      simp [List.getD_eq_getElem?_getD, b]
  · rw [List.pairwise_iff_getElem]
    intro i j hi hj hij
    simp only [List.getElem_map]
    have hi' : i < p.toList.length := by simpa using hi
    have hj' : j < p.toList.length := by simpa using hj
    have hm : ∀ i, i < l.length → l.getD i (0, 0) ∈ l := fun i hi => by
      rw [List.getD_eq_getElem?_getD, List.getElem?_eq_getElem hi]; exact List.getElem_mem hi
    have hpl : p.toList.length = l.length := by rw [hp.length_eq]; simp
    have := h3 i j (Nat.le_of_lt hij) (ar239 hj' hpl)
    unfold Kp at this
    have ei : p.getD i 0 = p.toList[i] := by rw [Array.getD_eq_getD_getElem?, ← Array.getElem?_toList, List.getElem?_eq_getElem hi']; rfl
    have ej : p.getD j 0 = p.toList[j] := by rw [Array.getD_eq_getD_getElem?, ← Array.getElem?_toList, List.getElem?_eq_getElem hj']; rfl
    rw [ei, ej] at this
    exact code_le (hm _ (hlt _ (List.getElem_mem hi'))) (hm _ (hlt _ (List.getElem_mem hj'))) this
end Mine
end
section
open PySem PySem.W PyProof.Rows
set_option Elab.async false
set_option linter.unusedVariables false
set_option maxRecDepth 100000
namespace Mine
variable {B : Base} {Z Z' : Fz} {φ φ' : List Addr} {F : Frm} {σ : St} {Q : AV → St → Prop} {env : Env} {fr : List Ent} {s : Shared}

def allBut (h : Heap) (L : Addr) : List (Addr × Obj) := (List.range h.objs.size).filterMap fun b => if b = L then none else (h.get? b).map (b, ·)
theorem allBut_mem {h : Heap} {L b : Addr} {o : Obj} (hb : b ≠ L) (ho : h.get? b = some o) : (b, o) ∈ allBut h L :=
  List.mem_filterMap.mpr ⟨b, List.mem_range.mpr (Heap.lt_size ho), by rw [if_neg hb, ho]; rfl⟩
theorem allBut_news {h : Heap} {L : Addr} : News {} L h (allBut h L) := fun p hp => by
  obtain ⟨b, hb, e⟩ := List.mem_filterMap.mp hp
  split at e
  · cases e
  · rename_i hne
    obtain ⟨o, ho, rfl⟩ := Option.map_eq_some_iff.mp e
    exact ⟨ho, hne, rfl⟩

/-- a pair of ints, in a heap -/
def PairIn (h : Heap) (v : Value) (p : Int × Int) : Prop := ∃ a o n t u, v = .ref a ∧ h.get? a = some o ∧ o.cls = .type "tuple" ∧ o.data = .seq #[.int p.1 t, .int p.2 u] n
theorem pair_in {v : Value} {p : Int × Int} (h : RelV B Z φ v (.tup [.int p.1, .int p.2])) {E} (I : Inv B Z E s) : PairIn s.heap v p := by
  obtain ⟨a, o, items, n, rfl, q1, q2, q3, q4⟩ := h.tup_i
  obtain ⟨its⟩ := items
  obtain ⟨_, _, rfl, a1, a2⟩ := q4.cons_i
  obtain ⟨_, _, rfl, b1, b2⟩ := a2.cons_i
  obtain rfl := b2.nil_i
  obtain ⟨_, rfl⟩ := a1.int_i
  obtain ⟨_, rfl⟩ := b1.int_i
  exact ⟨a, o, n, _, _, rfl, I.fz _ _ q1, q2, q3⟩
theorem PairIn.keep {h h' : Heap} {v p} (x : PairIn h v p) {L : Addr} (hL : ∃ o es ep, h.get? L = some o ∧ o.data = .dict es ep) (k : ∀ b o, b ≠ L → h.get? b = some o → h'.get? b = some o) : PairIn h' v p := by
  obtain ⟨a, o, n, t, u, e, ho, hc, hd⟩ := x
  refine ⟨a, o, n, t, u, e, k a o ?_ ho, hc, hd⟩
  rintro rfl
  obtain ⟨o', es, ep, h1, h2⟩ := hL
  rw [ho] at h1; cases h1; rw [hd] at h2; cases h2

theorem pair_lt {prog : Program} {w : World} {A : Around} {v u : Value} {p q : Int × Int} {C : Bool → Shared → Prop} {E : Value → Shared → Prop} (hv : PairIn s.heap v p) (hu : PairIn s.heap u q) (h : C (lexlt p q) s) :
    wpAny (model prog w) A (keyLt' (tuples' true) v u) C E s := by
  obtain ⟨a, o, n, t, t', rfl, ho, hc, hd⟩ := hv
  obtain ⟨b, o', n', r, r', rfl, ho', hc', hd'⟩ := hu
  refine kat_lt ho hd ho' hd' ?_
  obtain ⟨p1, p2⟩ := p
  obtain ⟨q1, q2⟩ := q
  dsimp only at *
  refine kat_cons (wpAny_eqBool_int ?_)
  by_cases c : p1 = q1
  · subst c
    rw [show (p1 == p1) = true by simp]
    refine kat_yes (kat_cons (wpAny_eqBool_int ?_))
    by_cases c2 : p2 = q2
    · subst c2
      rw [show (p2 == p2) = true by simp]
      refine kat_yes (kat_nil ?_)
      have e : lexlt (p1, p2) (p1, p2) = false := by simp [lexlt]
      rw [e] at h
      exact h
    · rw [show (p2 == q2) = false by simpa using c2]
      refine kat_no ?_
      refine kat_one _ _ (P.lt_int ?_)
      have e : lexlt (p1, p2) (p1, q2) = decide (p2 < q2) := by simp [lexlt]
      rw [e] at h
      exact h
  · rw [show (p1 == q1) = false by simpa using c]
    refine kat_no (oneLt_int ?_)
    have e : lexlt (p1, p2) (q1, q2) = decide (p1 < q1) := by simp [lexlt, c]
    rw [e] at h
    exact h

theorem pair_tups {h : Heap} : ∀ {vs : List Value} {l : List (Int × Int)}, (∀ (i : Nat) v p, vs[i]? = some v → l[i]? = some p → PairIn h v p) → vs.length = l.length → ∃ fs, KatTups h vs fs ∧ fs.length = l.length ∧ ∀ f ∈ fs, ∃ i t, f = .int i t
  | [], [], _, _ => ⟨[], .nil, rfl, fun f hf => nomatch hf⟩
  | v :: vs, p :: l, hp, hl => by
    obtain ⟨fs, h1, h2, h3⟩ := pair_tups (vs := vs) (l := l) (fun i v p a b => hp (i + 1) v p (by simpa using a) (by simpa using b)) (by simpa using hl)
    obtain ⟨a, o, n, t, u, rfl, ho, hc, hd⟩ := hp 0 v p (by simp) (by simp)
    refine ⟨.int p.1 t :: fs, .cons ho hc hd (by rfl) h1, by simp [h2], fun f hf => ?_⟩
    rcases List.mem_cons.mp hf with rfl | hf
    · exact ⟨_, _, rfl⟩
    · exact h3 f hf
  | [], _ :: _, _, hl => by simp at hl
  | _ :: _, [], _, hl => by simp at hl

theorem Inv.adoptZ {E : List Ent} (I : Inv B Z E s) {a : Addr} {o : Obj} (ho : s.heap.get? a = some o) (hz : Z a = Option.none) (he : a ∉ E.map (·.1)) (hb : B.H.objs.size ≤ a) : Inv B (Z.put a o) E s := by
  refine { I with fz := fun b o' e => ?_, base := fun b o e t => Fz.le.put hz _ _ (I.base b o e t), dj := fun q hq => ?_, tab := fun t ht => ?_, tz := fun t ht => ?_ }
  · by_cases hb : b = a
    · subst hb; rw [Fz.put_self] at e; cases e; exact ho
    · rw [Fz.put_ne _ _ hb] at e; exact I.fz _ _ e
  · rw [Fz.put_ne _ _ (fun e => he (List.mem_map.mpr ⟨q, hq, e⟩))]; exact I.dj q hq
  · obtain ⟨ps, x, y, z⟩ := I.tab t ht
    exact ⟨ps, x, y, fun pos c hc => (z pos c hc).mono (Fz.le.put hz)⟩
  · rw [Fz.put_ne _ _ (Nat.ne_of_lt (Nat.lt_of_lt_of_le (I.tlo t ht).2 hb))]; exact I.tz t ht
theorem RelVs.pick {vs : List Value} {l : List (Int × Int)} (h : RelVs B Z φ vs (ap l)) : ∀ {ix : List Nat}, (∀ i ∈ ix, i < l.length) → RelVs B Z φ (ix.map fun i => vs.getD i Value.none) (ap (ix.map fun i => l.getD i (0, 0)))
  | [], _ => .nil
  | i :: ix, hi => by
    refine .cons ?_ (RelVs.pick h fun j hj => hi j (List.mem_cons_of_mem _ hj))
    have hlt := hi i List.mem_cons_self
    obtain ⟨v, e1, e2⟩ := h.get (i := i) (a := .tup [.int (l.getD i (0, 0)).1, .int (l.getD i (0, 0)).2]) (by simp [ap, List.getD_eq_getElem?_getD, hlt])
    show RelV B Z φ (vs.getD i Value.none) (.tup [.int (l.getD i (0, 0)).1, .int (l.getD i (0, 0)).2])
    have e : vs.getD i Value.none = v := by rw [List.getD_eq_getElem?_getD, e1]; rfl
    rw [e]; exact e2

theorem k_sortp {a : AV} {l : List (Int × Int)} (h1 : LstOf σ.led a (ap l)) (h2 : 2 ≤ l.length) (h64 : l.length < 64) (h : ∀ l', l'.Perm l → l'.Pairwise lexle → Q (.lst (ap l')) σ) : WCall B F (.builtin "sorted") [a] Q σ := fun A env Z φ fr s vs hA hE hv R => by
  obtain ⟨_, _, rfl, h0, hn⟩ := hv.cons_i
  obtain rfl := hn.nil_i
  obtain ⟨p, items, n, rfl, hL, rl⟩ := R.lst h1 h0
  have hlen : items.toList.length = l.length := by rw [rl.length]; simp [ap]
  obtain ⟨es, hns, hnr⟩ := R.ns
  have hLd : ∃ o es ep, s.heap.get? env.locals = some o ∧ o.data = .dict es ep := let ⟨o, es, ep, a, b, _⟩ := hns; ⟨o, es, ep, a, b⟩
  have F0 : Fr {} env.locals s.heap (nsFind es) := ⟨hns, fun b o e => by simp [Heap.get?] at e, Nat.zero_le _⟩
  have hpair : ∀ (i : Nat) v q, items.toList[i]? = some v → l[i]? = some q → PairIn s.heap v q := fun i v q hi hq => by
    obtain ⟨av, e1, e2⟩ := rl.get' hi
    have : av = .tup [.int q.1, .int q.2] := by simp [ap, hq] at e1; exact e1.symm
    subst this
    exact pair_in e2 R.inv
  refine kat_sorted (vs := items.toList) F0 allBut_news (by rw [Array.toArray_toList]; exact hL.isList) (ar74 h2 hlen) (ar75 h64 hlen) fun D e1 h' F' N' hD => ?_
  have kp : ∀ b o, b ≠ env.locals → s.heap.get? b = some o → h'.get? b = some o := fun b o hb e => (N' (b, o) (List.mem_cons_of_mem _ (allBut_mem hb e))).1
  have hpair' : ∀ (i : Nat) v q, items.toList[i]? = some v → l[i]? = some q → PairIn h' v q := fun i v q hi hq => (hpair i v q hi hq).keep hLd kp
  obtain ⟨fs, t1, t2, t3⟩ := pair_tups (h := h') (vs := items.toList) (l := l) hpair' hlen
  refine kat_kind (s := { s with heap := h' }) (T := .type "int") t1 (ar256 h2 t2) (fun v hv => ?_) (by decide) ?_
  · obtain ⟨i, t, rfl⟩ := t3 v hv
    exact Looks.of_pure rfl
  have hb : ((Value.type "int") != (Value.type "tuple")) = true := by decide
  rw [hb, hlen]
  obtain ⟨pm, s1, s2, s3, s4⟩ := sort_pairs (l := l) (ar76 h2)
  have hgl : ∀ i, i < l.length → l[i]? = some (l.getD i (0, 0)) := fun i hi => by rw [List.getD_eq_getElem?_getD, List.getElem?_eq_getElem hi]; rfl
  have hgv : ∀ i, i < l.length → items.toList[i]? = some (items.toList.getD i Value.none) := fun i hi => by rw [List.getD_eq_getElem?_getD, List.getElem?_eq_getElem (ar12 hlen hi)]; rfl
  refine krun_wp' (n := l.length) (lt := fun i j => lexlt (l.getD i (0, 0)) (l.getD j (0, 0))) (J := fun s' => ∃ tk, s' = { s with heap := h', toks := tk }) ?_ (kas_sort l.length) _ _ (sort_kb (ar76 h2)) ⟨s.toks, rfl⟩ ?_
  · rintro i j C s' hi hj ⟨tk, rfl⟩ hC
    exact pair_lt (s := { s with heap := h', toks := tk }) (hpair' i _ _ (hgv i hi) (hgl i hi)) (hpair' j _ _ (hgv j hj) (hgl j hj)) (hC _ ⟨tk, rfl⟩)
  rintro s' ⟨tk, rfl⟩
  rw [s1]
  refine .intro F' N' (.head fun q hq => Nat.ne_of_lt (hD q hq)) fun h2 c F2 N2 => ?_
  have kp2 : ∀ b o, b ≠ env.locals → s.heap.get? b = some o → h2.get? b = some o := fun b o hb e => (N2 (b, o) (List.mem_cons_of_mem _ (allBut_mem hb e))).1
  have hDn := N2 (D, listOf (List.toArray (pm.toList.map fun i => items.toList.getD i Value.none)) c) List.mem_cons_self
  obtain ⟨o2, es2, ep2, ho2, hd2, hs2, hf2⟩ := F2.ns
  have noD : ∀ o, s.heap.get? D = some o → False := fun o e => Nat.lt_irrefl D (hD (D, o) (allBut_mem hDn.2.1 e))
  have hLm : (env.locals, NsP B Z φ env.scope.names σ.loc) ∈ frameE B Z φ env σ.loc ++ (ledE B Z φ σ.led ++ fr) := by simp [frameE]
  have hbD : B.H.objs.size ≤ D := by
    obtain ⟨b, o, e, hb⟩ := B.last
    obtain ⟨o', ho'⟩ := R.inv.old.there b o e
    have hbl : b ≠ env.locals := Nat.ne_of_lt (Nat.lt_of_lt_of_le (by rw [hb]; exact Nat.lt_succ_self b) (R.inv.hi _ hLm))
    rw [hb]; exact hD (b, o') (allBut_mem hbl ho')
  have I1 := R.inv.upd (h' := h2) (tk := tk) (E1 := []) (a := env.locals) (p' := NsP B Z φ env.scope.names σ.loc) rfl (fun b o hb e => kp2 b o hb e) ho2 ⟨es2, ep2, hd2, hs2, fun x av e1 e2 => by
    obtain ⟨v, g1, g2⟩ := hnr x av e1 e2
    exact ⟨v, by rw [hf2]; exact g1, g2⟩⟩
  have hz : Z D = Option.none := by
    cases e : Z D with
    | none => rfl
    | some o => exact (noD o (R.inv.fz _ _ e)).elim
  have he : D ∉ (frameE B Z φ env σ.loc ++ (ledE B Z φ σ.led ++ fr)).map (·.1) := fun hm => by
    obtain ⟨q, hq, e⟩ := List.mem_map.mp hm
    obtain ⟨o, ho, _⟩ := R.inv.ent q hq
    rw [e] at ho; exact noD o ho
  have I2 := I1.adoptZ hDn.1 hz he hbD
  have x : Ext Z φ (Z.put D (listOf (List.toArray (pm.toList.map fun i => items.toList.getD i Value.none)) c)) φ := ⟨Fz.le.put hz, List.prefix_refl _⟩
  refine ⟨_, φ, σ, _, x, ?_, (R.toks (tk := tk)).mono x I2, h _ s2 s3⟩
  refine .lst (items := List.toArray (pm.toList.map fun i => items.toList.getD i Value.none)) (n := c) (Fz.put_self ..) ?_
  simpa using (rl.pick s4).mono x
end Mine
end
section
open PySem PySem.W PyProof.Rows
set_option Elab.async false
set_option linter.unusedVariables false
set_option maxRecDepth 100000
namespace Mine
theorem zip_no_len : typeLookup (.type "zip") "__len__" = pure none := by rw [typeLookup_type, builtinLookup_eq_fast]; kernel_rfl
theorem zip_no_hint : typeLookup (.type "zip") "__length_hint__" = pure none := by rw [typeLookup_type, builtinLookup_eq_fast]; kernel_rfl
/-- a zip whose own tuple is out -/
abbrev IsZipO (h : Heap) (z TI TO T : Addr) (b : Bool) : Prop :=
  h.get? z = some { cls := .type "zip", dict := none, data := .fields #[rawInt T, .bool b, .bool false, .ref TI, .ref TO], slots := #[] }

section
variable {prog : Program} {w : World} {A : Around} {E : Value → Shared → Prop} {s : Shared}
theorem wpAny_loadIfAlive {a : Addr} {Q : Option Obj → Shared → Prop} (h : Q (s.heap.get? a) s) : wpAny (model prog w) A (loadIfAlive a) Q E s := fun _ _ _ => h
theorem notFree {z TI TO T : Addr} {b : Bool} {oT : Obj} {Q : Bool → Shared → Prop} (hz : IsZipO s.heap z TI TO T b) (hT : s.heap.get? T = some oT) (h : ∀ h' b', IsZipO h' z TI TO T b' → Heap.SameBut z s.heap h' → Q false { s with heap := h' }) :
    wpAny (model prog w) A (Builtin.SmallTypes.ownedTupleIsFree (.ref z)) Q E s := by
  unfold Builtin.SmallTypes.ownedTupleIsFree
  refine wpAny_bind (wpAny_field hz rfl (x := rawInt T) rfl ?_)
  show wpAny _ _ (loadIfAlive (T : Int).toNat >>= _) _ _ _
  refine wpAny_bind (wpAny_loadIfAlive ?_)
  rw [show (T : Int).toNat = T from rfl, hT]
  simp only [Option.isNone_some, Bool.false_eq_true, if_false]
  refine wpAny_bind (wpAny_field hz rfl (x := .bool b) rfl ?_)
  cases b with
  | true => exact wpAny_pure (h s.heap true hz (Heap.SameBut.refl _ _))
  | false =>
    rw [if_pos (by decide)]
    refine wpAny_bind (wpAny_setField_rec hz (by simp) fun h' hz' hs' => wpAny_pure (h h' true ?_ hs'))
    simpa using hz'

theorem next_item {z TI TO i1 i2 l1 l2 T : Addr} {b : Bool} {oT : Obj} {k1 k2 : Nat} {xs ys : Array Value} {x y : Value} {Q : Value → Shared → Prop} (D : ZipApart z TI TO i1 i2 l1 l2)
    (hz : IsZipO s.heap z TI TO T b) (hTa : s.heap.get? T = some oT) (hTI : IsPair s.heap TI (.ref i1) (.ref i2))
    (h1 : s.heap.IsListIter i1 l1 k1) (h2 : s.heap.IsListIter i2 l2 k2) (hl1 : s.heap.IsList l1 xs) (hl2 : s.heap.IsList l2 ys) (hx : xs[k1]? = some x) (hy : ys[k2]? = some y)
    (hQ : ∀ h' b', IsZipO h' z TI TO T b' → h'.IsListIter i1 l1 (k1 + 1) → h'.IsListIter i2 l2 (k2 + 1) → IsPair h' s.heap.objs.size x y → h'.objs.size = s.heap.objs.size + 1 →
      (∀ c o, c ≠ z → c ≠ i1 → c ≠ i2 → s.heap.get? c = some o → h'.get? c = some o) → Q (.ref s.heap.objs.size) { s with heap := h' }) :
    wpAny (model prog w) A (Builtin.«zip.__next__» ⟨[.ref z], []⟩) (fun fin s' => ∃ v, fin = .done (.ret v) ∧ Q v s') E s := by
  show wpAny _ _ (field (.ref z) 2 >>= _) _ _ _
  refine wpAny_bind (wpAny_field hz rfl (x := .bool false) rfl ?_)
  show wpAny _ _ (field (.ref z) 3 >>= _) _ _ _
  refine wpAny_bind (wpAny_field hz rfl (x := .ref TI) rfl ?_)
  refine wpAny_bind (wpAny_seqItems hTI rfl ?_)
  show wpAny _ _ (Builtin.SmallTypes.ownedTupleIsFree (.ref z) >>= _) _ _ _
  refine wpAny_bind (notFree hz hTa fun h₁ b₁ hz₁ hs₁ => ?_)
  simp only [Bool.false_eq_true, if_false]
  refine wpAny_bind ?_
  simp only [List.forIn_cons, List.forIn_nil, List.forIn_toArray]
  refine wpAny_bind (wpAny_bind (wpAny_holding ?_))
  show wpAny _ _ (Builtin.SmallTypes.nextOf (.ref i1) >>= _) _ _ _
  refine wpAny_bind (wpAny_nextOf_list_item (h1.extBut hs₁.extBut D.i1z) (hl1.extBut hs₁.extBut D.l1z) hx fun h₂ h1₂ hs₂ => wpAny_pure ?_)
  refine wpAny_pure ?_
  refine wpAny_bind (wpAny_bind (wpAny_holding ?_))
  show wpAny _ _ (Builtin.SmallTypes.nextOf (.ref i2) >>= _) _ _ _
  refine wpAny_bind (wpAny_nextOf_list_item ((h2.extBut hs₁.extBut D.i2z).extBut hs₂.extBut D.i12.symm) ((hl2.extBut hs₁.extBut D.l2z).extBut hs₂.extBut D.l2i1) hy fun h₄ h2₄ hs₄ => wpAny_pure ?_)
  refine wpAny_pure (wpAny_pure ?_)
  dsimp only
  refine wpAny_bind (wpAny_newTuple (wpAny_pure ⟨_, rfl, ?_⟩) (by show 2 ≤ sizeLine; rw [sizeLine_eq]; decide +kernel))
  have hsz : h₄.objs.size = s.heap.objs.size := by rw [hs₄.1, hs₂.1, hs₁.1]
  have e : (Value.ref h₄.objs.size) = .ref s.heap.objs.size := by rw [hsz]
  show Q (.ref h₄.objs.size) _
  rw [e]
  have hz₄ : IsZipO h₄ z TI TO T b₁ := hs₄.extBut _ _ D.i2z.symm (hs₂.extBut _ _ D.i1z.symm hz₁)
  refine hQ _ b₁ (Heap.get?_push_of_some _ hz₄) ((h1₂.extBut hs₄.extBut D.i12).at fun o e => Heap.get?_push_of_some _ e) (h2₄.at fun o e => Heap.get?_push_of_some _ e) ?_ (by rw [Heap.size_push, hsz]) fun c o c1 c2 c3 q => Heap.get?_push_of_some _ (hs₄.extBut _ _ c3 (hs₂.extBut _ _ c2 (hs₁.extBut _ _ c1 q)))
  rw [← hsz]; exact Heap.get?_push_size _ rfl

theorem next_end {z TI TO i1 i2 l1 l2 T : Addr} {b : Bool} {oT : Obj} {k1 k2 : Nat} {xs ys : Array Value} {Q : Fin → Shared → Prop} (hh : A.handled = none) (D : ZipApart z TI TO i1 i2 l1 l2)
    (hz : IsZipO s.heap z TI TO T b) (hTa : s.heap.get? T = some oT) (hTI : IsPair s.heap TI (.ref i1) (.ref i2))
    (h1 : s.heap.IsListIter i1 l1 k1) (hl1 : s.heap.IsList l1 xs) (hend : xs[k1]? = none)
    (hE : ∀ h' e, (∀ c o, c ≠ z → c ≠ i1 → s.heap.get? c = some o → h'.get? c = some o) → (∃ o, h'.get? e = some o ∧ o.cls = .type "StopIteration") → E (.ref e) { s with heap := h' }) :
    wpAny (model prog w) A (Builtin.«zip.__next__» ⟨[.ref z], []⟩) Q E s := by
  show wpAny _ _ (field (.ref z) 2 >>= _) _ _ _
  refine wpAny_bind (wpAny_field hz rfl (x := .bool false) rfl ?_)
  show wpAny _ _ (field (.ref z) 3 >>= _) _ _ _
  refine wpAny_bind (wpAny_field hz rfl (x := .ref TI) rfl ?_)
  refine wpAny_bind (wpAny_seqItems hTI rfl ?_)
  show wpAny _ _ (Builtin.SmallTypes.ownedTupleIsFree (.ref z) >>= _) _ _ _
  refine wpAny_bind (notFree hz hTa fun h₁ b₁ hz₁ hs₁ => ?_)
  simp only [Bool.false_eq_true, if_false]
  refine wpAny_bind ?_
  simp only [List.forIn_cons, List.forIn_nil, List.forIn_toArray]
  refine wpAny_bind (wpAny_bind (wpAny_holding ?_))
  show wpAny _ _ (Builtin.SmallTypes.nextOf (.ref i1) >>= _) _ _ _
  exact wpAny_bind (wpAny_nextOf_list_end hh (h1.extBut hs₁.extBut D.i1z) (hl1.extBut hs₁.extBut D.l1z) hend fun h₂ e hs₂ he => hE h₂ e (fun c o c1 c2 q => hs₂ _ _ c2 (hs₁.extBut _ _ c1 q)) he)

theorem zip_item {z TI TO i1 i2 l1 l2 T : Addr} {b : Bool} {oT : Obj} {k1 k2 : Nat} {xs ys : Array Value} {x y : Value} {Q : Option Value → Shared → Prop} (D : ZipApart z TI TO i1 i2 l1 l2)
    (hz : IsZipO s.heap z TI TO T b) (hTa : s.heap.get? T = some oT) (hTI : IsPair s.heap TI (.ref i1) (.ref i2))
    (h1 : s.heap.IsListIter i1 l1 k1) (h2 : s.heap.IsListIter i2 l2 k2) (hl1 : s.heap.IsList l1 xs) (hl2 : s.heap.IsList l2 ys) (hx : xs[k1]? = some x) (hy : ys[k2]? = some y)
    (hQ : ∀ h' b', IsZipO h' z TI TO T b' → h'.IsListIter i1 l1 (k1 + 1) → h'.IsListIter i2 l2 (k2 + 1) → IsPair h' s.heap.objs.size x y → h'.objs.size = s.heap.objs.size + 1 →
      (∀ c o, c ≠ z → c ≠ i1 → c ≠ i2 → s.heap.get? c = some o → h'.get? c = some o) → Q (some (.ref s.heap.objs.size)) { s with heap := h' }) :
    wpAny (model prog w) A (pyNext (.ref z)) Q E s := by
  have hT : s.TypeIs (.ref z) "zip" := ⟨_, hz, rfl⟩
  unfold pyNext
  exact wpAny_bind (wpAny_attempt (wpAny_callSpecial?_slot (name := Str.ofString "__next__") hT F.slot_zip_next
    (wpAny_call_entry F.slot_zip_next hT F.entry_zip_next (next_item D hz hTa hTI h1 h2 hl1 hl2 hx hy fun h' b' a1 a2 a3 a4 a5 a6 => wpAny_pure (hQ h' b' a1 a2 a3 a4 a5 a6)) (F.args_zip_next_1 _))))
theorem zip_end {z TI TO i1 i2 l1 l2 T : Addr} {b : Bool} {oT : Obj} {k1 k2 : Nat} {xs ys : Array Value} {Q : Option Value → Shared → Prop} (hh : A.handled = none) (D : ZipApart z TI TO i1 i2 l1 l2)
    (hz : IsZipO s.heap z TI TO T b) (hTa : s.heap.get? T = some oT) (hTI : IsPair s.heap TI (.ref i1) (.ref i2))
    (h1 : s.heap.IsListIter i1 l1 k1) (hl1 : s.heap.IsList l1 xs) (hend : xs[k1]? = none)
    (hQ : ∀ h', (∀ c o, c ≠ z → c ≠ i1 → s.heap.get? c = some o → h'.get? c = some o) → Q none { s with heap := h' }) : wpAny (model prog w) A (pyNext (.ref z)) Q E s := by
  have hT : s.TypeIs (.ref z) "zip" := ⟨_, hz, rfl⟩
  unfold pyNext
  refine wpAny_bind (wpAny_attempt (wpAny_callSpecial?_slot (name := Str.ofString "__next__") hT F.slot_zip_next
    (wpAny_call_entry F.slot_zip_next hT F.entry_zip_next (next_end (k2 := k2) (ys := ys) hh D hz hTa hTI h1 hl1 hend fun h' e hk he => ?_) (F.args_zip_next_1 _))))
  obtain ⟨o, ho, hc⟩ := he
  refine wpAny_bind (wpAny_isInstance (T := "StopIteration") (b := true) ⟨o, ho, hc⟩ isSubtype_stop ?_)
  exact wpAny_pure (hQ _ hk)

/-- what the list holds so far -/
def PairsIn (h : Heap) (n0 : Nat) (W : List Addr) (xs ys acc : Array Value) (k : Nat) : Prop :=
  acc.size = k ∧ ∀ (j : Nat) v, acc[j]? = some v → ∃ a x y, v = .ref a ∧ n0 ≤ a ∧ a ∉ W ∧ xs[j]? = some x ∧ ys[j]? = some y ∧ IsPair h a x y
theorem PairsIn.keep {h h' : Heap} {n0 W xs ys acc k} (p : PairsIn h n0 W xs ys acc k) (hk : ∀ b o, b ∉ W → h.get? b = some o → h'.get? b = some o) : PairsIn h' n0 W xs ys acc k :=
  ⟨p.1, fun j v e => let ⟨a, x, y, e1, e2, e3, e4, e5, e6⟩ := p.2 j v e; ⟨a, x, y, e1, e2, e3, e4, e5, hk _ _ e3 e6⟩⟩
theorem PairsIn.push {h : Heap} {n0 W xs ys acc k} (p : PairsIn h n0 W xs ys acc k) {a : Addr} {x y : Value} (h1 : n0 ≤ a) (h2 : a ∉ W) (h3 : xs[k]? = some x) (h4 : ys[k]? = some y) (h5 : IsPair h a x y) : PairsIn h n0 W xs ys (acc.push (.ref a)) (k + 1) := by
  refine ⟨by rw [Array.size_push, p.1], fun j v e => ?_⟩
  rw [Array.getElem?_push] at e
  split at e
  · rename_i q; rw [p.1] at q; cases e; subst q; exact ⟨a, x, y, rfl, h1, h2, h3, h4, h5⟩
  · exact p.2 j v e

theorem zip_loop {z TI TO i1 i2 l1 l2 S T n0 : Addr} {xs ys : Array Value} {R : Result → Shared → Prop} {res : Value} (hh : A.handled = none) (D : ZipApart z TI TO i1 i2 l1 l2) (hxy : xs.size = ys.size) (hn : xs.size ≤ 1000000)
    (hTW : T ∉ [S, z, TO, i1, i2]) (hTIS : TI ≠ S) (h1S : i1 ≠ S) (h2S : i2 ≠ S) (hzS : z ≠ S) (l1S : l1 ≠ S) (l2S : l2 ≠ S) :
    ∀ (m k : Nat) (s : Shared) (acc : Array Value) (b : Bool) (c : Nat), k + m = xs.size → IsZipO s.heap z TI TO T b → (∃ oT, s.heap.get? T = some oT) → IsPair s.heap TI (.ref i1) (.ref i2) → s.heap.IsListIter i1 l1 k → s.heap.IsListIter i2 l2 k → s.heap.IsList l1 xs → s.heap.IsList l2 ys →
      s.heap.get? S = some { cls := .type "list", dict := none, data := .seq acc c, slots := #[] } → PairsIn s.heap n0 [S, z, TO, i1, i2] xs ys acc k → (∀ q ∈ [S, z, TO, i1, i2], q < s.heap.objs.size) → n0 ≤ s.heap.objs.size →
      (∀ h' acc' c', (∀ q o, q ∉ [S, z, TO, i1, i2] → s.heap.get? q = some o → h'.get? q = some o) → h'.get? S = some { cls := .type "list", dict := none, data := .seq acc' c', slots := #[] } → PairsIn h' n0 [S, z, TO, i1, i2] xs ys acc' xs.size → R (.ok (.ret res)) { s with heap := h' }) →
      codeAny (model prog w) A (.builtin "list.extend.loop" ⟨[.ref S, .ref z, res], []⟩) R s := by
  intro m
  induction m with
  | zero =>
    intro k s acc b c hk hz hT hTI h1 h2 hl1 hl2 hS hacc hW hn0 hR
    obtain ⟨oT, hTa⟩ := hT
    have hkn : k = xs.size := ar482 hk
    refine codeAny_builtin F.entry_extend_loop ?_
    rw [Around.under_plainId F.plain_extend_loop _]
    show wpAny _ A.in1 (pyNext (.ref z) >>= _) _ _ s
    refine wpAny_bind (zip_end (k2 := k) (ys := ys) hh D hz hTa hTI h1 hl1 (Array.getElem?_eq_none (ar483 hk)) fun h' hk' => ?_)
    have hkeep : ∀ q o, q ∉ [S, z, TO, i1, i2] → s.heap.get? q = some o → h'.get? q = some o := fun q o hq e => hk' q o (fun x => hq (by simp [x])) (fun x => hq (by simp [x])) e
    exact wpAny_pure (hR h' acc c hkeep (hk' _ _ hzS.symm h1S.symm hS) (hkn ▸ hacc.keep hkeep))
  | succ m ih =>
    intro k s acc b c hk hz hT hTI h1 h2 hl1 hl2 hS hacc hW hn0 hR
    obtain ⟨oT, hTa⟩ := hT
    have hkx : k < xs.size := ar484 hk
    have hky : k < ys.size := ar485 hxy hk
    refine codeAny_builtin F.entry_extend_loop ?_
    rw [Around.under_plainId F.plain_extend_loop _]
    show wpAny _ A.in1 (pyNext (.ref z) >>= _) _ _ s
    refine wpAny_bind (zip_item D hz hTa hTI h1 h2 hl1 hl2 (Array.getElem?_eq_getElem hkx) (Array.getElem?_eq_getElem hky) fun h' b' hz' h1' h2' hp hsz hk' => ?_)
    have hS' : h'.get? S = some { cls := .type "list", dict := none, data := .seq acc c, slots := #[] } := hk' _ _ hzS.symm h1S.symm h2S.symm hS
    show wpAny _ A.in1 (updateSeq S (·.push (.ref s.heap.objs.size)) >>= _) _ _ _
    refine wpAny_bind ?_
    have sb := Heap.SameBut.update h' S (Obj.mapSeq (·.push (.ref s.heap.objs.size)))
    have up : ∀ q o, q ≠ S → h'.get? q = some o → (h'.update S (Obj.mapSeq (·.push (.ref s.heap.objs.size)))).get? q = some o := fun q o hq e => (sb.2 q hq).trans e
    have hkeep1 : ∀ q o, q ∉ [S, z, TO, i1, i2] → s.heap.get? q = some o → h'.get? q = some o := fun q o hq e => hk' q o (fun x => hq (by simp [x])) (fun x => hq (by simp [x])) (fun x => hq (by simp [x])) e
    have hkeep : ∀ q o, q ∉ [S, z, TO, i1, i2] → s.heap.get? q = some o → (h'.update S (Obj.mapSeq (·.push (.ref s.heap.objs.size)))).get? q = some o := fun q o hq e =>
      up q o (fun x => hq (by simp [x])) (hkeep1 q o hq e)
    have hnew : s.heap.objs.size ∉ [S, z, TO, i1, i2] := fun hm => Nat.lt_irrefl _ (hW _ hm)
    have hnS : s.heap.objs.size ≠ S := fun x => hnew (by simp [x])
    refine wpAny_updateSeq hS' rfl (wpAny_pure ⟨plainId_quiet F.plain_extend_loop _, ih (k + 1) _ (acc.push (.ref s.heap.objs.size)) b' _ (ar486 hk) (up _ _ hzS hz') ⟨oT, hkeep _ _ hTW hTa⟩ (up _ _ hTIS (hk' _ _ D.TIz D.TIi1 D.TIi2 hTI))
      (h1'.at fun o e => up _ o h1S e) (h2'.at fun o e => up _ o h2S e) (hl1.at fun o e => up _ o l1S (hk' _ _ D.l1z D.l1i1 D.l1i2 e)) (hl2.at fun o e => up _ o l2S (hk' _ _ D.l2z D.l2i1 D.l2i2 e)) (Heap.get?_update_self _ hS' rfl)
      ((hacc.keep hkeep).push hn0 hnew (Array.getElem?_eq_getElem hkx) (Array.getElem?_eq_getElem hky) (up _ _ hnS hp)) (fun q hq => ?_) ?_ fun h'' acc' c' a1 a2 a3 => ?_⟩) (by rw [hacc.1, sizeLine_eq]; exact ar487 hn hk) (by show (acc.push _).size ≤ sizeLine + 1; rw [Array.size_push, hacc.1, sizeLine_eq]; exact ar488 hn hk)
    · show q < (h'.update S _).objs.size
      rw [sb.1, hsz]; exact Nat.lt_succ_of_lt (hW q hq)
    · show n0 ≤ (h'.update S _).objs.size
      rw [sb.1, hsz]; exact Nat.le_succ_of_le hn0
    · exact hR h'' acc' c' (fun q o hq e => a1 q o hq (hkeep q o hq e)) a2 a3
end
end Mine
end
section
open PySem PySem.W PyProof.Rows
set_option Elab.async false
set_option linter.unusedVariables false
set_option maxRecDepth 100000
namespace Mine
theorem nea {a b : Nat} (h : a ≠ b) : @Ne Addr a b := h
theorem notW {q n : Nat} (h : q < n ∨ q = n + 2 ∨ n + 5 < q) : q ∉ ([n + 5, n + 4, n + 3, n, n + 1] : List Addr) := by
  intro hm
  have hm' : q ∈ ([n + 5, n + 4, n + 3, n, n + 1] : List Nat) := hm
  simp only [List.mem_cons, List.not_mem_nil, or_false] at hm'
  exact ar327 h hm'
theorem inW {q n m : Nat} (h : n + 5 < m) (hq : q ∈ ([n + 5, n + 4, n + 3, n, n + 1] : List Addr)) : q < m := by
  have hm' : q ∈ ([n + 5, n + 4, n + 3, n, n + 1] : List Nat) := hq
  simp only [List.mem_cons, List.not_mem_nil, or_false] at hm'
  exact ar328 h hm'
theorem outW {q n : Nat} (h : q ∉ ([n + 5, n + 4, n + 3, n, n + 1] : List Addr)) : q ≠ n + 5 ∧ q ≠ n + 4 ∧ q ≠ n + 3 ∧ q ≠ n ∧ q ≠ n + 1 := by
  have hm' : q ∉ ([n + 5, n + 4, n + 3, n, n + 1] : List Nat) := h
  simp only [List.mem_cons, List.not_mem_nil, or_false, not_or] at hm'
  exact hm'
section
variable {prog : Program} {w : World} {A : Around} {E : Value → Shared → Prop} {s : Shared}

theorem extend_zip {R : Result → Shared → Prop} {n : Nat} {l1 l2 S : Nat} {xs ys : Array Value} {c₀ : Nat} (hh : A.handled = none) (hl1n : l1 < n) (hl2n : l2 < n) (hS5 : S = n + 5) (hxy : xs.size = ys.size) (h0 : 0 < xs.size) (hnn : xs.size ≤ 1000000)
    (hz : IsZip s.heap (n + 4) (n + 2) (n + 3) .none) (hTI : IsPair s.heap (n + 2) (.ref n) (.ref (n + 1))) (hTO : IsPair s.heap (n + 3) .none .none) (h1 : s.heap.IsListIter n l1 0) (h2 : s.heap.IsListIter (n + 1) l2 0)
    (hl1 : s.heap.IsList l1 xs) (hl2 : s.heap.IsList l2 ys) (hS : s.heap.get? S = some { cls := .type "list", data := .seq #[] c₀ })
    (hR : ∀ h' acc' c', (∀ q o, q < n → s.heap.get? q = some o → h'.get? q = some o) → h'.get? S = some { cls := .type "list", dict := none, data := .seq acc' c', slots := #[] } → PairsIn h' n [S, n + 4, n + 3, n, n + 1] xs ys acc' xs.size → R (.ok (.ret .none)) { s with heap := h' }) :
    wpAny (model prog w) A.in1 (Builtin.List.listExtendWith (.ref S) (.ref (n + 4)) .none)
      (fun fin s' => match fin with | .done f => R (.ok f) s' | .again c' => c'.quiet = true ∧ codeAny (model prog w) A c' R s') (fun e s' => R (.error e) s') s := by
  subst hS5
  have D := zipApart_new hl1n hl2n
  have hT : s.TypeIs (.ref (n + 4)) "zip" := ⟨_, hz, rfl⟩
  have hn6 : n + 5 < s.heap.objs.size := Heap.lt_size hS
  have hW : ∀ q ∈ ([n + 5, n + 4, n + 3, n, n + 1] : List Addr), q < s.heap.objs.size := fun q hq => inW hn6 hq
  unfold Builtin.List.listExtendWith
  refine wpAny_bind (wpAny_typeOf hT ?_)
  have e1 : Builtin.List.listSameRef (.ref (n + 5)) (.ref (n + 4)) = false := by simp [Builtin.List.listSameRef]
  have e2 : (Value.type "zip" == Value.type "list") = false := by rfl
  have e3 : (Value.type "zip" == Value.type "tuple") = false := by assumption
  simp only [e1, e2, e3, Bool.or_false, Bool.false_eq_true, if_false]
  refine wpAny_bind (wpAny_pyIter_zip hz ?_)
  refine wpAny_bind (wpAny_holding ?_)
  unfold Builtin.List.listLengthHint
  refine wpAny_bind (wpAny_specialOf hT zip_no_len ?_)
  show wpAny _ A.in1 (specialOf (Value.ref (n + 4)) (Str.ofString "__length_hint__") >>= _) _ _ _
  refine wpAny_bind (wpAny_specialOf hT zip_no_hint ?_)
  refine wpAny_pure ?_
  show wpAny _ A.in1 (rule "list.extend.makes-room" >>= fun _ => Builtin.List.listTouch (.ref (n + 5)) >>= fun _ =>
    again (.builtin "list.extend.loop" ⟨[.ref (n + 5), .ref (n + 4), .none], []⟩)) _ _ _
  refine wpAny_bind (wpAny_rule ?_)
  refine wpAny_bind ?_
  show wpAny _ A.in1 (updateSeq (n + 5) (·.push .none) >>= fun _ => updateSeq (n + 5) (·.pop)) _ _ _
  refine wpAny_bind (wpAny_updateSeq hS rfl ?_)
  have hS₂ := Heap.get?_update_self (Obj.mapSeq (·.push Value.none)) hS rfl
  refine wpAny_updateSeq (hz := by seq_fits) hS₂ rfl ?_
  have hS₃ := Heap.get?_update_self (Obj.mapSeq (·.pop)) hS₂ rfl
  have oth : ∀ b o, b ≠ n + 5 → s.heap.get? b = some o → ((s.heap.update (n + 5) (Obj.mapSeq (·.push Value.none))).update (n + 5) (Obj.mapSeq (·.pop))).get? b = some o :=
    fun b o hb e => (Heap.get?_update_other _ _ (Ne.symm hb)).trans ((Heap.get?_update_other _ _ (Ne.symm hb)).trans e)
  have hsz : ((s.heap.update (n + 5) (Obj.mapSeq (·.push Value.none))).update (n + 5) (Obj.mapSeq (·.pop))).objs.size = s.heap.objs.size := by rw [Heap.size_update, Heap.size_update]
  generalize ((s.heap.update (n + 5) (Obj.mapSeq (·.push Value.none))).update (n + 5) (Obj.mapSeq (·.pop))) = hA at *
  refine wpAny_pure ⟨plainId_quiet F.plain_extend_loop _, ?_⟩
  -- the first turn
  refine codeAny_builtin F.entry_extend_loop ?_
  rw [Around.under_plainId F.plain_extend_loop _]
  show wpAny _ A.in1 (pyNext (.ref (n + 4)) >>= _) _ _ _
  refine wpAny_bind (wpAny_pyNext_zip_item (s := { s with heap := hA }) D (oth _ _ (nea (ar42)) hz) (oth _ _ (nea (ar90)) hTI) (oth _ _ (nea (ar329)) hTO) (h1.at fun o e => oth _ o (nea (ar43)) e) (h2.at fun o e => oth _ o (nea (ar44)) e)
    (hl1.at fun o e => oth _ o (nea (ar18 hl1n)) e) (hl2.at fun o e => oth _ o (nea (ar18 hl2n)) e) (Array.getElem?_eq_getElem h0) (Array.getElem?_eq_getElem (ar91 hxy h0)) fun h' a1 a2 a3 a4 a5 a6 a7 => ?_)
  dsimp only at a1 a5 a6 a7
  rw [hsz] at a1 a5 a6
  have hnS : hA.objs.size ≠ n + 5 := by rw [hsz]; exact ar45 hn6
  have hS' : h'.get? (n + 5) = some { cls := .type "list", dict := none, data := .seq #[] _, slots := #[] } := a7 _ _ (nea (ar330)) (nea (ar331)) (nea (ar332)) (nea (ar333)) hS₃
  show wpAny _ A.in1 (updateSeq (n + 5) (·.push (.ref hA.objs.size)) >>= _) _ _ _
  rw [hsz]
  refine wpAny_bind ?_
  have sb := Heap.SameBut.update h' (n + 5) (Obj.mapSeq (·.push (.ref s.heap.objs.size)))
  have up : ∀ q o, q ≠ n + 5 → h'.get? q = some o → (h'.update (n + 5) (Obj.mapSeq (·.push (.ref s.heap.objs.size)))).get? q = some o := fun q o hq e => (sb.2 q hq).trans e
  have all : ∀ q o, q ∉ ([n + 5, n + 4, n + 3, n, n + 1] : List Addr) → s.heap.get? q = some o → (h'.update (n + 5) (Obj.mapSeq (·.push (.ref s.heap.objs.size)))).get? q = some o := fun q o hq0 e => by
    have hq := outW hq0
    exact up _ _ hq.1 (a7 _ _ hq.2.1 hq.2.2.1 hq.2.2.2.1 hq.2.2.2.2 (oth _ _ hq.1 e))
  have hnew : s.heap.objs.size ∉ ([n + 5, n + 4, n + 3, n, n + 1] : List Addr) := fun hm => Nat.lt_irrefl _ (hW _ hm)
  have l1W : l1 ∉ ([n + 5, n + 4, n + 3, n, n + 1] : List Addr) := notW (ar92 hl1n)
  have l2W : l2 ∉ ([n + 5, n + 4, n + 3, n, n + 1] : List Addr) := notW (ar92 hl2n)
  have TIW : n + 2 ∉ ([n + 5, n + 4, n + 3, n, n + 1] : List Addr) := notW (ar334)
  refine wpAny_updateSeq hS' rfl (wpAny_pure ⟨plainId_quiet F.plain_extend_loop _, zip_loop (T := s.heap.objs.size) (n0 := n) hh D hxy hnn hnew (nea (ar90)) (nea (ar43)) (nea (ar44)) (nea (ar42)) (nea (ar18 hl1n)) (nea (ar18 hl2n)) (xs.size - 1) 1 _ (#[].push (.ref s.heap.objs.size)) false _ (ar335 h0)
    (up _ _ (nea (ar42)) a1) ⟨_, up _ _ (nea (ar45 hn6)) a5⟩ (all _ _ TIW hTI) (a3.at fun o e => up _ o (nea (ar43)) e) (a4.at fun o e => up _ o (nea (ar44)) e) (hl1.at fun o e => all _ o l1W e) (hl2.at fun o e => all _ o l2W e) (Heap.get?_update_self _ hS' rfl)
    ?_ (fun q hq => ?_) ?_ fun h'' acc' c' b1 b2 b3 => ?_⟩) (by show (0 : Nat) ≤ _; exact Nat.zero_le _) (by show (1 : Nat) ≤ _; rw [sizeLine_eq]; exact Nat.succ_pos _)
  · exact PairsIn.push (acc := #[]) (k := 0) ⟨rfl, fun j v e => by simp at e⟩ (ar336 hn6) hnew (Array.getElem?_eq_getElem h0) (Array.getElem?_eq_getElem (ar91 hxy h0)) (up _ _ (nea (ar45 hn6)) a5)
  · show q < (h'.update _ _).objs.size
    rw [sb.1, a6]; exact Nat.lt_succ_of_lt (hW q hq)
  · show n ≤ (h'.update _ _).objs.size
    rw [sb.1, a6]; exact ar337 hn6
  · refine hR h'' acc' c' (fun q o hq e => b1 q o (notW (.inl hq)) (all q o (notW (.inl hq)) e)) b2 b3

theorem listzip {l1 l2 : Addr} {xs ys : Array Value} {Q : Value → Shared → Prop} (hh : A.handled = none) (hl1 : s.heap.IsList l1 xs) (hl2 : s.heap.IsList l2 ys) (hxy : xs.size = ys.size) (h0 : 0 < xs.size) (hnn : xs.size ≤ 1000000)
    (hQ : ∀ h' L acc c, (∀ q o, s.heap.get? q = some o → h'.get? q = some o) → s.heap.objs.size ≤ L → h'.get? L = some { cls := .type "list", data := .seq acc c } →
      (acc.size = xs.size ∧ ∀ (j : Nat) v, acc[j]? = some v → ∃ a x y, v = .ref a ∧ s.heap.objs.size ≤ a ∧ xs[j]? = some x ∧ ys[j]? = some y ∧ IsPair h' a x y) → Q (.ref L) { s with heap := h' }) :
    wpAny (model prog w) A (call (.type "zip") [.ref l1, .ref l2]) (fun v s1 => wpAny (model prog w) A (call (.type "list") [v]) Q E s1) E s := by
  have q1 : l1 < s.heap.objs.size := by obtain ⟨o, e, _⟩ := hl1; exact Heap.lt_size e
  have q2 : l2 < s.heap.objs.size := by obtain ⟨o, e, _⟩ := hl2; exact Heap.lt_size e
  refine call_zip_2 hl1 hl2 fun h' a1 a2 a3 a4 a5 a6 a7 => ?_
  refine callType_codes (Q₁ := fun obj s₁ => obj = .ref h'.objs.size ∧ s₁ = { s with heap := h'.push { cls := .type "list", data := .seq #[] } }) F.called_list (F.typeCall_list_1 _) F.entry_list_init
    (code_list_new _ ⟨rfl, rfl⟩) fun obj s₁ h₁ => ?_
  obtain ⟨rfl, rfl⟩ := h₁
  have hS : (h'.push { cls := .type "list", data := .seq #[] }).get? h'.objs.size = some { cls := .type "list", data := .seq #[] } := Heap.get?_push_size _ rfl
  have hl1' : h'.IsList l1 xs := hl1.at fun o e => a7 _ o e
  have hl2' : h'.IsList l2 ys := hl2.at fun o e => a7 _ o e
  refine ⟨⟨_, hS, rfl⟩, F.args_list_init_2 _ _, ?_⟩
  show wpAny _ A.in1.in1 (do let old ← Builtin.List.listItems (.ref h'.objs.size); Builtin.List.listUpdate (.ref h'.objs.size) (fun _ => #[]); letGo old.toList.reverse; Builtin.List.listExtendWith (.ref h'.objs.size) (.ref (s.heap.objs.size + 4)) .none) _ _ _
  refine wpAny_bind ?_
  unfold Builtin.List.listItems
  refine wpAny_bind (wpAny_seqItems hS rfl (wpAny_pure ?_))
  show wpAny _ A.in1.in1 (updateSeq h'.objs.size (fun _ => #[]) >>= fun _ => letGo (#[] : Array Value).toList.reverse >>= fun _ => Builtin.List.listExtendWith (.ref h'.objs.size) (.ref (s.heap.objs.size + 4)) .none) _ _ _
  refine wpAny_bind (wpAny_updateSeq hS rfl ?_)
  have hS₂ := Heap.get?_update_self (Obj.mapSeq (fun _ => (#[] : Array Value))) hS rfl
  have oth : ∀ b o, h'.get? b = some o → ((h'.push { cls := .type "list", data := .seq #[] }).update h'.objs.size (Obj.mapSeq (fun _ => (#[] : Array Value)))).get? b = some o :=
    fun b o e => (Heap.get?_update_other _ _ (Nat.ne_of_gt (Heap.lt_size e))).trans (Heap.get?_push_of_some _ e)
  refine wpAny_bind (wpAny_letGo ?_)
  refine extend_zip (A := A.in1) (n := s.heap.objs.size) (l1 := l1) (l2 := l2) (by exact hh) q1 q2 a6 hxy h0 hnn (oth _ _ a1) (oth _ _ a2) (oth _ _ a3) (a4.at fun o e => oth _ o e) (a5.at fun o e => oth _ o e) (hl1'.at fun o e => oth _ o e) (hl2'.at fun o e => oth _ o e) hS₂ fun h2 acc' c' b1 b2 b3 => ?_
  refine ⟨rfl, hQ h2 h'.objs.size acc' c' (fun q o e => b1 q o (Heap.lt_size e) (oth _ _ (a7 _ _ e))) (ar339 a6) b2 ⟨b3.1, fun j v e => ?_⟩⟩
  obtain ⟨a, x, y, e1, e2, e3, e4, e5, e6⟩ := b3.2 j v e
  exact ⟨a, x, y, e1, e2, e4, e5, e6⟩
end
end Mine
end
section
open PySem PySem.W PyProof.Rows
set_option Elab.async false
set_option linter.unusedVariables false
set_option maxRecDepth 100000
namespace Mine
variable {B : Base} {Z Z' : Fz} {φ φ' : List Addr} {F : Frm} {σ : St} {Q : AV → St → Prop} {env : Env} {fr : List Ent} {s : Shared}

theorem Inv.adopts {E : List Ent} {n : Nat} (hn : B.H.objs.size ≤ n) (hE : ∀ q ∈ E, q.1 < n) : ∀ (as : List Addr) {Z : Fz}, Inv B Z E s → (∀ a ∈ as, n ≤ a ∧ ∃ o, s.heap.get? a = some o) → ∃ Z', Z.le Z' ∧ Inv B Z' E s ∧ ∀ a ∈ as, ∀ o, s.heap.get? a = some o → Z' a = some o
  | [], Z, I, _ => ⟨Z, .refl _, I, fun a h => nomatch h⟩
  | a :: as, Z, I, h => by
    obtain ⟨ha, o, ho⟩ := h a List.mem_cons_self
    have he : a ∉ E.map (·.1) := fun hm => by
      obtain ⟨q, hq, e⟩ := List.mem_map.mp hm
      have := hE q hq
      rw [e] at this; exact Nat.lt_irrefl _ (Nat.lt_of_lt_of_le this ha)
    have step : ∃ Z1, Z.le Z1 ∧ Inv B Z1 E s ∧ Z1 a = some o := by
      cases e : Z a with
      | none => exact ⟨Z.put a o, Fz.le.put e, I.adoptZ ho e he (Nat.le_trans hn ha), Fz.put_self ..⟩
      | some o' =>
        have := I.fz _ _ e
        rw [ho] at this; cases this
        exact ⟨Z, .refl _, I, e⟩
    obtain ⟨Z1, l1, I1, e1⟩ := step
    obtain ⟨Z2, l2, I2, e2⟩ := Inv.adopts hn hE as I1 fun b hb => h b (List.mem_cons_of_mem _ hb)
    refine ⟨Z2, l1.trans l2, I2, fun b hb ob hob => ?_⟩
    rcases List.mem_cons.mp hb with rfl | hb
    · rw [ho] at hob; cases hob; exact l2 _ _ e1
    · exact e2 b hb ob hob

theorem r_listzip {fl fz p1 p2 e1 e2 pos pos'}
    (h : WE B F (.Name fl p1) (fun fa σ1 => fa = .ty "list" ∧ WE B F (.Name fz p2) (fun fb σ2 => fb = .ty "zip" ∧ WL B F [e1, e2] pos (fun as σ3 => ∃ a b l m, as = [a, b] ∧ LstOf σ3.led a l ∧ LstOf σ3.led b m ∧ l.length = m.length ∧ 0 < l.length ∧ l.length ≤ 1000000 ∧
      Q (.lst (List.zipWith (fun x y => .tup [x, y]) l m)) σ3) σ2) σ1) σ)
    (hs : ∀ env, starEach [e1, e2] env = [(false, eval e1 env), (false, eval e2 env)]) : WE B F (.Call (.Name fl p1) [.Call (.Name fz p2) [e1, e2] [] pos] [] pos') Q σ := fun A env Z φ fr s hA hE R => by
  refine wpAny_Call_Name_kw (wpAny_mono (h A env Z φ fr s hA hE R) (fun fv s1 ⟨Z1, φ1, σ1, fa, x1, rf, R1, hfa, h1⟩ => ?_) fun _ _ e => e)
  subst hfa
  obtain rfl := rf.ty_i
  rw [show starEach [Expr.Call (.Name fz p2) [e1, e2] [] pos] env = [(false, eval (.Call (.Name fz p2) [e1, e2] [] pos) env)] from rfl]
  refine PySem.callWith_type (by rfl) (Calls.evalArgs_plain (Calls.spliced_cons ?_))
  refine wpAny_Call_Name_kw (wpAny_mono (h1 A env Z1 φ1 fr s1 hA hE R1) (fun fv s2 ⟨Z2, φ2, σ2, fb, x2, rf, R2, hfb, h2⟩ => ?_) fun _ _ e => e)
  subst hfb
  obtain rfl := rf.ty_i
  have h2' := h2 A env Z2 φ2 fr s2 hA hE R2
  rw [hs] at h2' ⊢
  refine PySem.callWith_type (by rfl) (Calls.evalArgs_plain (wpAny_mono h2' (fun vs s3 ⟨Z3, φ3, σ3, as, x3, rv, R3, a, b, l, m, hab, ha, hb, hlm, h0, hz, hq⟩ => ?_) fun _ _ e => e))
  subst hab
  replace rv := rv.cons_i; obtain ⟨va, _, rfl, ra, rv⟩ := rv
  replace rv := rv.cons_i; obtain ⟨vb, _, rfl, rb, rv⟩ := rv
  obtain rfl := rv.nil_i
  obtain ⟨pa, ia, na, rfl, hLa, rla⟩ := R3.lst ha ra
  obtain ⟨pb, ib, nb, rfl, hLb, rlb⟩ := R3.lst hb rb
  have ea := lsize rla
  have eb := lsize rlb
  refine wpAny_mono (listzip (Q := fun v s' => PostV B env Z φ fr Q v s') (E := NoE) hA.hd hLa.isList hLb.isList (ar344 hlm ea eb) (ar345 h0 ea) (ar346 hz ea) fun h' L acc c hk hL hLo hacc => ?_) (fun v s4 hv => Calls.spliced_nil hv) fun _ _ e => e
  have hn := R3.inv.bsize
  have hE' : ∀ q ∈ frameE B Z3 φ3 env σ3.loc ++ (ledE B Z3 φ3 σ3.led ++ fr), q.1 < s3.heap.objs.size := fun q hq => by
    obtain ⟨o, ho, _⟩ := R3.inv.ent q hq; exact Heap.lt_size ho
  have I1 := R3.inv.keeps (h' := h') (tk := s3.toks) hk
  obtain ⟨Z4, l4, I4, e4⟩ := Inv.adopts (s := { s3 with heap := h', toks := s3.toks }) hn hE' (L :: acc.toList.filterMap fun v => match v with | .ref a => some a | _ => none) I1 (fun q hq => by
    rcases List.mem_cons.mp hq with rfl | hq
    · exact ⟨hL, _, hLo⟩
    · obtain ⟨v, hv, e⟩ := List.mem_filterMap.mp hq
      obtain ⟨j, hj, rfl⟩ := List.getElem_of_mem hv
      obtain ⟨a, x, y, e1, e2, e3, e4, e5⟩ := hacc.2 j acc.toList[j] (by rw [← Array.getElem?_toList, List.getElem?_eq_getElem hj])
      rw [e1] at e; cases e
      exact ⟨e2, _, e5⟩)
  have x4 : Ext Z3 φ3 Z4 φ3 := ⟨l4, List.prefix_refl _⟩
  have R4 : Rel B Z4 φ3 env σ3 fr { s3 with heap := h', toks := s3.toks } := (R3.keeps (tk := s3.toks) hk).mono x4 I4
  refine ⟨Z4, φ3, σ3, _, ((x1.trans x2).trans x3).trans x4, .lst (e4 L List.mem_cons_self _ hLo) ?_, R4, hq⟩
  refine RelVs.of_get (by simp [hacc.1, hlm, ea]) fun i v av hv hav => ?_
  obtain ⟨a, x, y, e1, e2, ex, ey, e5⟩ := hacc.2 i v (by rw [← Array.getElem?_toList]; exact hv)
  subst e1
  have hm : a ∈ L :: acc.toList.filterMap fun v => match v with | .ref a => some a | _ => none := List.mem_cons_of_mem _ (List.mem_filterMap.mpr ⟨.ref a, List.mem_of_getElem? hv, rfl⟩)
  have hz4 := e4 a hm _ e5
  rw [List.getElem?_zipWith] at hav
  obtain ⟨xa, g1, g2⟩ := rla.get' (i := i) (v := x) (by simpa using ex)
  obtain ⟨ya, g3, g4⟩ := rlb.get' (i := i) (v := y) (by simpa using ey)
  rw [g1, g3] at hav
  cases hav
  exact .tup hz4 rfl rfl (.cons (g2.mono x4) (.cons (g4.mono x4) .nil))
end Mine
end
section
open PySem PySem.W PyProof.Rows
set_option Elab.async false
set_option linter.unusedVariables false
set_option maxRecDepth 100000
namespace Mine

section
variable {prog : Program} {w : World} {A : Around} {E : Value → Shared → Prop} {s : Shared}

theorem put_pairs {K : Type} [DecidableEq K] {knd : KeyKind prog w K} {d : Addr} {kvs : List (K × Value)} {k : K} {key v : Value} {Q : Unit → Shared → Prop} (hkey : knd.is k key = true) (hm : s.heap.DictOf knd d kvs)
    (hQ : ∀ h', h'.DictOf knd d (stored kvs k v) → Heap.SameBut d s.heap h' → Q () { s with heap := h' }) (hsz : kvs.length ≤ sizeLine) : wpAny (model prog w) A (dictPut d (knd.hash k) key v) Q E s := by
  obtain ⟨o, es, ep, ho, hc, hd, hk, hp, hn⟩ := hm
  have hes : es.size ≤ sizeLine := by
    have e1 := hp.length
    have e2 : es.toList.length = es.size := by simp
    exact ar492 hsz e1 e2
  unfold dictPut
  refine wpAny_bind (wpAny_dictFind_of hkey ho hd hk ?_)
  have hidx : (es.findIdx? fun e => knd.is k e.key) = kvs.findIdx? fun kv => decide (kv.1 = k) := by
    rw [← hp.findIdx k]; obtain ⟨l⟩ := es; simp
  cases hi : es.findIdx? fun e => knd.is k e.key with
  | some i =>
    refine wpAny_updateDict ho hd (hQ _ ⟨_, _, ep, Heap.get?_update_self _ ho (Obj.isFreed_of_dict (Obj.data_mapDict hd _)), hc.mapDict _, Obj.data_mapDict hd _, hk.modify _ _, ?_, ?_⟩ (Heap.SameBut.update ..))
    · rw [stored, if_pos (any_of_findIdx_some (hidx ▸ hi))]
      have hl : (es.toList.findIdx? fun e => knd.is k e.key) = some i := by rw [← hi]; obtain ⟨l⟩ := es; simp
      have := hp.modify hn hl v
      obtain ⟨l⟩ := es
      simpa using this
    · rw [stored, if_pos (any_of_findIdx_some (hidx ▸ hi)), keys_map_store]; exact hn
  | none =>
    have hnot : k ∉ kvs.map (·.1) := not_mem_of_findIdx_none (hidx ▸ hi)
    have hany : ¬ (kvs.any fun kv => decide (kv.1 = k)) = true := by
      rw [List.any_eq_true]; rintro ⟨kv, hkv, he⟩
      exact hnot (List.mem_map.mpr ⟨kv, hkv, of_decide_eq_true he⟩)
    refine wpAny_updateDictKeys (hz := hes) ho hd (hQ _ ⟨_, _, ep + 1, Heap.get?_update_self _ ho (Obj.isFreed_of_dict (Obj.data_mapDictKeys hd _)), hc.mapDictKeys _, Obj.data_mapDictKeys hd _, hk.push hkey _, ?_, ?_⟩ (Heap.SameBut.update ..))
    · rw [stored, if_neg hany]
      have := hp.append hkey (knd.hash k) v
      obtain ⟨l⟩ := es
      simpa using this
    · rw [stored, if_neg hany, List.map_append, List.nodup_append]
      refine ⟨hn, by simp, ?_⟩
      intro a ha b hb
      simp only [List.map_cons, List.map_nil, List.mem_singleton] at hb
      subst hb
      exact fun e => hnot (e ▸ ha)

/-- a dict is merged into one that holds something -/
theorem merge_pairs {K : Type} [DecidableEq K] {knd : KeyKind prog w K} {d o : Addr} {kvs more : List (K × Value)} {Q : Unit → Shared → Prop} (hdo : d ≠ o) (hoS : (o == sysModules) = false) (hne : kvs ≠ [])
    (hd : s.heap.DictOf knd d kvs) (ho : s.heap.DictOf knd o more)
    (hQ : ∀ h', h'.DictOf knd d (merged kvs more) → Heap.SameBut d s.heap h' → Q () { s with heap := h' })
    (hsz : kvs.length + more.length ≤ sizeLine) : wpAny (model prog w) A (mergeMapping d (.ref o) false) Q E s := by
  obtain ⟨od, esd, epd, hod, hcd, hdd, hkd, hpd, hnd⟩ := id hd
  obtain ⟨oo, eso, epo, hoo, hco, hdo', hko, hpo, hno⟩ := id ho
  have hlen : more.length = eso.size := by rw [← hpo.length]; simp
  unfold mergeMapping
  refine wpAny_bind (wpAny_isInstance ho.typeIs isSubtype_dict_dict ?_)
  rw [if_pos rfl]
  refine wpAny_bind (wpAny_specialOf ho.typeIs F.slot_dict_iter.lookup (wpAny_bind (wpAny_pure ?_)))
  have e1 : ((some (Value.builtin "dict.__iter__") == some (Value.builtin "dict.__iter__"))) = true := by rfl
  rw [e1]
  dsimp only
  rw [if_neg (by rw [hoS]; exact Bool.false_ne_true)]
  have hemp : esd.isEmpty = false := by
    have : esd.size ≠ 0 := by
      have e2 := hpd.length
      have e3 : esd.toList.length = esd.size := by simp
      have : kvs.length ≠ 0 := fun e => hne (List.length_eq_zero_iff.mp e)
      exact ar494 e2 e3 this
    unfold Array.isEmpty; simpa using this
  refine wpAny_bind (wpAny_dictEntries hod hdd ?_)
  rw [hemp]
  simp only [Bool.false_eq_true, if_false]
  refine wpAny_bind (wpAny_dictEntries hoo hdo' ?_)
  refine wpAny_bind (wpAny_dictEpoch hoo hdo' ?_)
  rw [List.range_eq_range']
  try refine wpAny_bind ?_
  refine wpAny_forIn_list _
    (fun rest _ s' => ∃ h' i, s' = { s with heap := h' } ∧ rest = List.range' i (eso.size - i) ∧ i ≤ eso.size ∧ h'.DictOf knd d (merged kvs (more.take i)) ∧ h'.get? o = some oo ∧ Heap.SameBut d s.heap h')
    _ ?_ ?_ _ _ ⟨s.heap, 0, rfl, by simp, Nat.zero_le _, by assumption, hoo, Heap.SameBut.refl _ _⟩
  · rintro x rest b s' ⟨h', i, rfl, hr, hi, hd', hoo', hs'⟩
    have hlt : i < eso.size := by
      rcases Nat.lt_or_ge i eso.size with h | h
      · exact h
      · rw [Nat.sub_eq_zero_of_le h] at hr; simp at hr
    obtain ⟨rfl, hrest⟩ : x = i ∧ rest = List.range' (i + 1) (eso.size - (i + 1)) := by
      have e : eso.size - i = (eso.size - (i + 1)) + 1 := ar115 hlt
      rw [e, List.range'_succ] at hr
      injection hr with h1 h2
      exact ⟨h1, h2⟩
    refine wpAny_bind (wpAny_dictEntries hoo' hdo' ?_)
    rw [Array.getElem?_eq_getElem hlt]
    obtain ⟨kv, hkv⟩ : ∃ kv, more[x]? = some kv := ⟨more[x]'(by rw [hlen]; exact hlt), List.getElem?_eq_getElem _⟩
    obtain ⟨k, v⟩ := kv
    obtain ⟨hkey, hval⟩ := hpo.get? (e := eso[x]) (by simp [hlt]) hkv
    obtain ⟨k', hkey', hhash⟩ := hko eso[x] (Array.getElem_mem hlt)
    obtain rfl : k' = k := knd.inj _ _ _ hkey' hkey
    dsimp only
    rw [hhash, hval]
    have hmx : (merged kvs (more.take x)).length ≤ sizeLine := by
      have e1 := merged_length_le kvs (more.take x)
      have e2 : (more.take x).length ≤ more.length := by rw [List.length_take]; exact ar23
      exact ar495 hsz e1 e2
    refine wpAny_bind (wpAny_holding (put_pairs hkey hd' (fun h'' hd'' hs'' => ?_) hmx))
    have hoo'' : h''.get? o = some oo := (hs''.2 o (Ne.symm hdo)).trans hoo'
    refine wpAny_bind (wpAny_dictEpoch hoo'' hdo' ?_)
    rw [if_neg (by simp)]
    exact wpAny_pure ⟨h'', x + 1, rfl, hrest, hlt, by rw [merged_take_succ kvs more x (k', v) hkv]; exact hd'', hoo'', hs'.trans hs''⟩
  · rintro b s' ⟨h', i, rfl, hr, hi, hd', hoo', hs'⟩
    have hin : i = eso.size := by
      rcases Nat.lt_or_ge i eso.size with h | h
      · have e : eso.size - i = (eso.size - (i + 1)) + 1 := ar115 h
        rw [e, List.range'_succ] at hr; exact nomatch hr
      · exact Nat.le_antisymm hi h
    try refine wpAny_pure ?_
    refine hQ h' ?_ hs'
    rw [hin, ← hlen, List.take_length] at hd'; exact hd'
end
end Mine
end
section
open PySem PySem.W PyProof.Rows
set_option Elab.async false
set_option linter.unusedVariables false
set_option maxRecDepth 100000
namespace Mine

inductive SV : List (Int × Value) → List (Int × Str) → Prop
  | nil : SV [] []
  | cons {k x t vs D} : SV vs D → SV ((k, .str x t) :: vs) ((k, x) :: D)
theorem SV.keys {vs D} (h : SV vs D) : vs.map (·.1) = D.map (·.1) := by
  induction h with
  | nil => rfl
  | cons _ ih => simp [ih]
theorem SV.len {vs D} (h : SV vs D) : vs.length = D.length := by
  induction h with
  | nil => rfl
  | cons _ ih => simp [ih]
theorem SV.append {vs D vs' D'} (h : SV vs D) (g : SV vs' D') : SV (vs ++ vs') (D ++ D') := by
  induction h with
  | nil => exact g
  | cons _ ih => exact .cons ih

section
variable {prog : Program} {w : World} {A : Around} {E : Value → Shared → Prop} {s : Shared}

structure LitP (prog : Program) (w : World) (A : Around) (p : Sem Value × Sem Value) (d : Int × Str) : Prop where
  k : ∀ (s : Shared) (Q : Value → Shared → Prop) (E : Value → Shared → Prop), (∀ t tk, Q (.int d.1 t) { s with toks := tk }) → wpAny (model prog w) A p.1 Q E s
  v : ∀ (s : Shared) (Q : Value → Shared → Prop) (E : Value → Shared → Prop), (∀ t tk, Q (.str d.2 t) { s with toks := tk }) → wpAny (model prog w) A p.2 Q E s
inductive LitsP (prog : Program) (w : World) (A : Around) : List (Sem Value × Sem Value) → List (Int × Str) → Prop
  | nil : LitsP prog w A [] []
  | cons {p d ps ds} : LitP prog w A p d → LitsP prog w A ps ds → LitsP prog w A (p :: ps) (d :: ds)
theorem LitsP.len {ps D} (h : LitsP prog w A ps D) : ps.length = D.length := by
  induction h with
  | nil => rfl
  | cons _ _ ih => simp [ih]
theorem LitsP.snoc {ps D p d} (h : LitsP prog w A ps D) (g : LitP prog w A p d) : LitsP prog w A (ps ++ [p]) (D ++ [d]) := by
  induction h with
  | nil => exact .cons g .nil
  | cons a _ ih => exact .cons a ih

theorem evalPairs_lit {ps D} (h : LitsP prog w A ps D) : ∀ {s : Shared} {Q : List (Value × Value) → Shared → Prop}, (∀ vs kvs tk, Carries (intKind prog w) vs kvs → SV kvs D → Q vs { s with toks := tk }) → wpAny (model prog w) A (evalPairs ps) Q E s := by
  induction h with
  | nil => intro s Q hQ; exact evalPairs_nil (hQ [] [] s.toks trivial .nil)
  | @cons p d ps ds hp _ ih =>
    intro s Q hQ
    refine evalPairs_cons (hp.k _ _ _ fun t tk => hp.v _ _ _ fun t' tk' => ih fun vs kvs tk2 hc hv => ?_)
    exact hQ ((.int d.1 t, .str d.2 t') :: vs) ((d.1, .str d.2 t') :: kvs) tk2 ⟨intKind_is _ _ _ _, rfl, hc⟩ (.cons hv)

theorem subDict_lit {ps D} (h : LitsP prog w A ps D) (hn : (D.map (·.1)).Nodup) (hz : D.length ≤ 100) {Q : Addr → Shared → Prop}
    (hQ : ∀ h' kvs tk, h'.DictOf (intKind prog w) s.heap.objs.size kvs → SV kvs D → (∀ b o, s.heap.get? b = some o → h'.get? b = some o) → Q s.heap.objs.size { s with heap := h', toks := tk }) :
    wpAny (model prog w) A (subDict ps) Q E s := by
  by_cases hlen : ps.length ≤ 15
  · refine wpAny_subDict (knd := intKind prog w) hlen (evalPairs_lit h fun vs kvs tk hc hv => ⟨kvs, hc, Heap.DictOf.new _, fun h' hd hs => ?_⟩)
    rw [merged_nil_of_nodup kvs (by rw [hv.keys]; exact hn)] at hd
    exact hQ h' kvs _ hd hv fun b o e => (hs.2 b (Nat.ne_of_lt (Heap.lt_size e))).trans (Heap.get?_push_of_some _ e)
  · unfold subDict
    refine wpAny_bind (wpAny_alloc ?_)
    refine wpAny_bind (wpAny_holding ?_)
    rw [if_neg hlen]
    refine wpAny_bind (wpAny_rule ?_)
    have key : ∀ (ps : List (Sem Value × Sem Value)) (D D0 : List (Int × Str)) (kvs : List (Int × Value)) (s1 : Shared) (Q1 : PUnit → Shared → Prop), LitsP prog w A ps D → SV kvs D0 → ((D0 ++ D).map (·.1)).Nodup → (D0 ++ D).length ≤ 100 → s1.heap.DictOf (intKind prog w) s.heap.objs.size kvs →
        (∀ h' kvs' tk, h'.DictOf (intKind prog w) s.heap.objs.size kvs' → SV kvs' (D0 ++ D) → Heap.SameBut s.heap.objs.size s1.heap h' → Q1 ⟨⟩ { s1 with heap := h', toks := tk }) →
        wpAny (model prog w) A (forIn ps PUnit.unit fun (x : Sem Value × Sem Value) (_ : PUnit) => (do
          let kv ← x.1
          let vv ← holding [kv] x.2
          holding [kv, vv] (dictSet s.heap.objs.size kv vv)
          pure (ForInStep.yield PUnit.unit) : Sem (ForInStep PUnit))) Q1 E s1 := by
      intro ps
      induction ps with
      | nil =>
        intro D D0 kvs s1 Q1 hl hv hnd hzz hd hq
        cases hl
        rw [List.forIn_nil]
        exact wpAny_pure (hq s1.heap kvs s1.toks hd (by simpa using hv) (Heap.SameBut.refl _ _))
      | cons p ps ih =>
        intro D D0 kvs s1 Q1 hl hv hnd hzz hd hq
        cases hl with
        | @cons _ d _ ds hp hl =>
        rw [List.forIn_cons]
        refine wpAny_bind (wpAny_bind (hp.k _ _ _ fun t tk => wpAny_bind (wpAny_holding (hp.v _ _ _ fun t' tk' => wpAny_bind (wpAny_holding (wpAny_dictSet_pairs (knd := intKind prog w) (k := d.1) (kvs := kvs) (intKind_is _ _ _ _) hd (fun h₁ hd₁ hs₁ => wpAny_pure ?_) ?_))))))
        · have hst : stored kvs d.1 (.str d.2 t') = kvs ++ [(d.1, .str d.2 t')] := by
            unfold stored
            rw [if_neg]
            rw [List.any_eq_true]; rintro ⟨x, hx, he⟩
            have h1 : d.1 ∈ D0.map (·.1) := by rw [← hv.keys]; exact List.mem_map.mpr ⟨x, hx, of_decide_eq_true he⟩
            rw [List.map_append, List.map_cons, List.nodup_append] at hnd
            exact hnd.2.2 d.1 h1 d.1 List.mem_cons_self rfl
          rw [hst] at hd₁
          refine ih ds (D0 ++ [d]) _ _ Q1 hl (hv.append (.cons (k := d.1) (x := d.2) .nil)) (by simpa using hnd) (by simpa using hzz) hd₁ fun h' kvs' tk2 hd' hv' hs' => ?_
          exact hq h' kvs' tk2 hd' (by simpa using hv') (hs₁.trans hs')
        · rw [hv.len, sizeLine_eq]; simp at hzz; exact ar305 hzz
    refine wpAny_bind (key ps D [] [] _ _ h .nil (by assumption) (by assumption) (Heap.DictOf.new _) fun h' kvs' tk hd' hv' hs' => ?_)
    exact wpAny_pure (wpAny_pure (hQ h' kvs' tk hd' (by simpa using hv') fun b o e => (hs'.2 b (Nat.ne_of_lt (Heap.lt_size e))).trans (Heap.get?_push_of_some _ e)))
end
end Mine
end
section
open PySem PySem.W PyProof.Rows
set_option Elab.async false
set_option linter.unusedVariables false
set_option maxRecDepth 100000
namespace Mine
section
variable {prog : Program} {w : World} {A : Around} {E : Value → Shared → Prop} {s : Shared}

def MainOk (prog : Program) (w : World) (n : Nat) (m : Option Addr) (D : List (Int × Str)) (h : Heap) : Prop :=
  (m = none ∧ D = []) ∨ ∃ d kvs, m = some d ∧ D ≠ [] ∧ h.DictOf (intKind prog w) d kvs ∧ SV kvs D ∧ n ≤ d
def LowKeep (n : Nat) (h h' : Heap) : Prop := ∀ b o, b < n → h.get? b = some o → h'.get? b = some o
def FlushOk (prog : Program) (w : World) (A : Around) (E : Value → Shared → Prop) (n : Nat) (flush : List (Sem Value × Sem Value) → Option Addr → Sem (Option Addr)) : Prop :=
  ∀ run main D0 Dr (s1 : Shared) (Q1 : Option Addr → Shared → Prop), MainOk prog w n main D0 s1.heap → LitsP prog w A run Dr → Dr.length ≤ 17 → ((D0 ++ Dr).map (·.1)).Nodup → (D0 ++ Dr).length ≤ 100000 → n ≤ s1.heap.objs.size →
    (∀ m' h' tk, MainOk prog w n m' (D0 ++ Dr) h' → LowKeep n s1.heap h' → n ≤ h'.objs.size → Q1 m' { s1 with heap := h', toks := tk }) → wpAny (model prog w) A (flush run main) Q1 E s1

theorem dictOf_lt {K : Type} [DecidableEq K] {knd : KeyKind prog w K} {h : Heap} {d kvs} (x : h.DictOf knd d kvs) : d < h.objs.size := let ⟨_, _, _, ho, _⟩ := x; Heap.lt_size ho
theorem dictOf_keep {K : Type} [DecidableEq K] {knd : KeyKind prog w K} {h h' : Heap} {d kvs} (x : h.DictOf knd d kvs) (k : ∀ b o, h.get? b = some o → h'.get? b = some o) : h'.DictOf knd d kvs := let ⟨o, es, ep, ho, r⟩ := x; ⟨o, es, ep, k _ _ ho, r⟩

theorem display_lit {ps D} (h : LitsP prog w A ps D) (hn : (D.map (·.1)).Nodup) (hz : D.length ≤ 100000) (h0 : D ≠ []) (hsys : sysModules < s.heap.objs.size) {Q : Value → Shared → Prop}
    (hQ : ∀ a h' kvs tk, s.heap.objs.size ≤ a → h'.DictOf (intKind prog w) a kvs → SV kvs D → LowKeep s.heap.objs.size s.heap h' → Q (.ref a) { s with heap := h', toks := tk }) :
    wpAny (model prog w) A (dictDisplay (ps.map fun p => (some p.1, p.2))) Q E s := by
  unfold dictDisplay
  extract_lets flush main0 run0
  have hflush : FlushOk prog w A E s.heap.objs.size flush := by
    intro run main D0 Dr s1 Q1 hm hl hl17 hnd hzz hns hq
    show wpAny _ _ (if run.isEmpty = true then _ else _) _ _ _
    by_cases he : run.isEmpty = true
    · rw [if_pos he]
      have : run = [] := List.isEmpty_iff.mp he
      subst this
      cases hl
      exact wpAny_pure (hq main s1.heap s1.toks (by simpa using hm) (fun _ _ _ e => e) hns)
    · rw [if_neg he]
      have hne : Dr ≠ [] := by rintro rfl; cases hl; exact he rfl
      have hndr : (Dr.map (·.1)).Nodup := by rw [List.map_append, List.nodup_append] at hnd; exact hnd.2.1
      rcases hm with ⟨rfl, rfl⟩ | ⟨d, kvs, rfl, hD0, hd, hv, hle⟩
      · dsimp only
        refine wpAny_bind (subDict_lit hl hndr (ar86 hl17) fun h' kvs tk hd hv hk => wpAny_pure (hq _ h' tk (.inr ⟨_, kvs, rfl, by assumption, hd, by assumption, hns⟩) (fun b o _ e => hk b o e) ?_))
        exact Nat.le_trans hns (Nat.le_of_lt (dictOf_lt hd))
      · dsimp only
        refine wpAny_bind (wpAny_holding (subDict_lit hl hndr (ar86 hl17) fun h' kvs' tk hd' hv' hk => ?_))
        have hsub := dictOf_lt hd'
        refine wpAny_bind (wpAny_onRaise (wpAny_holding (merge_pairs (knd := intKind prog w) (kvs := kvs) (more := kvs') ?_ ?_ ?_ (dictOf_keep hd hk) hd' (fun h'' hd'' hs'' => ?_) ?_)))
        · exact Nat.ne_of_lt (dictOf_lt hd)
        · rw [beq_eq_false_iff_ne]; exact Nat.ne_of_gt (Nat.lt_of_lt_of_le hsys hns)
        · rintro rfl; cases hv; exact hD0 rfl
        · have e : merged kvs kvs' = kvs ++ kvs' := merged_append_of_fresh _ _ (by rw [(hv.append hv').keys]; exact hnd)
          rw [e] at hd''
          refine wpAny_pure (hq _ h'' tk (.inr ⟨d, _, rfl, by simp [hD0], hd'', hv.append hv', hle⟩) (fun b o hb e => ?_) ?_)
          · exact (hs''.2 b (Nat.ne_of_lt (Nat.lt_of_lt_of_le hb hle))).trans (hk b o e)
          · exact Nat.le_trans hle (Nat.le_of_lt (dictOf_lt hd''))
        · have := hv.len; have := hv'.len; rw [sizeLine_eq]; simp at hzz; exact ar300 (by assumption) this hzz
  have hkeep : ∀ (ps : List (Sem Value × Sem Value)) (D D0 Dr : List (Int × Str)) (main : Option Addr) (run : List (Sem Value × Sem Value)) (s1 : Shared) (Q1 : (Option Addr × List (Sem Value × Sem Value)) → Shared → Prop),
      LitsP prog w A ps D → MainOk prog w s.heap.objs.size main D0 s1.heap → LitsP prog w A run Dr → Dr.length ≤ 16 → ((D0 ++ Dr ++ D).map (·.1)).Nodup → (D0 ++ Dr ++ D).length ≤ 100000 → s.heap.objs.size ≤ s1.heap.objs.size →
      (∀ m' run' D0' Dr' h' tk, MainOk prog w s.heap.objs.size m' D0' h' → LitsP prog w A run' Dr' → Dr'.length ≤ 16 → D0' ++ Dr' = D0 ++ Dr ++ D → LowKeep s.heap.objs.size s1.heap h' → s.heap.objs.size ≤ h'.objs.size → Q1 (m', run') { s1 with heap := h', toks := tk }) →
      ∀ (f : (Option (Sem Value) × Sem Value) → (Option Addr × List (Sem Value × Sem Value)) → Sem (ForInStep (Option Addr × List (Sem Value × Sem Value)))),
        (∀ (p : Sem Value × Sem Value) (main : Option Addr) (run : List (Sem Value × Sem Value)), f (some p.1, p.2) (main, run) = if ((run ++ [(p.1, p.2)]).length == 17) = true then (do let m ← flush (run ++ [(p.1, p.2)]) main; pure (.yield (m, []))) else pure (.yield (main, run ++ [(p.1, p.2)]))) →
      wpAny (model prog w) A (forIn (ps.map fun p => (some p.1, p.2)) (main, run) f) Q1 E s1 := by
    intro ps
    induction ps with
    | nil =>
      intro D D0 Dr main run s1 Q1 hl hm hr h16 hnd hzz hns hq f hf
      cases hl
      rw [List.map_nil, List.forIn_nil]
      exact wpAny_pure (hq main run D0 Dr s1.heap s1.toks hm hr h16 (by simp) (fun _ _ _ e => e) hns)
    | cons p ps ih =>
      intro D D0 Dr main run s1 Q1 hl hm hr h16 hnd hzz hns hq f hf
      cases hl with
      | @cons _ d _ ds hp hl =>
      rw [List.map_cons, List.forIn_cons, hf]
      have hrl : (run ++ [(p.1, p.2)]).length = Dr.length + 1 := by simp [hr.len]
      have hr' : LitsP prog w A (run ++ [(p.1, p.2)]) (Dr ++ [d]) := hr.snoc hp
      by_cases h17 : Dr.length + 1 = 17
      · rw [if_pos (by rw [hrl, h17]; rfl)]
        refine wpAny_bind (wpAny_bind (hflush _ _ D0 (Dr ++ [d]) s1 _ hm hr' (by simp; exact h16) (hnd.sublist ?_) (by simp at hzz ⊢; exact ar302 hzz) hns fun m' h' tk hm' hk' hn' => wpAny_pure ?_))
        · refine List.Sublist.map _ ?_
          have : D0 ++ Dr ++ d :: ds = (D0 ++ (Dr ++ [d])) ++ ds := by simp
          rw [this]; exact List.sublist_append_left _ _
        · refine ih ds (D0 ++ (Dr ++ [d])) [] m' [] { s1 with heap := h', toks := tk } Q1 hl hm' .nil (by simp) (by simpa using hnd) (by simpa using hzz) hn' (fun m2 run2 D2 Dr2 h2 tk2 a b c e k n => hq m2 run2 D2 Dr2 h2 tk2 a b c (by simpa using e) (fun x o hx y => k x o hx (hk' x o hx y)) n) f hf
      · rw [if_neg (by rw [hrl]; simpa using h17)]
        refine wpAny_bind (wpAny_pure ?_)
        exact ih ds D0 (Dr ++ [d]) main _ s1 Q1 hl hm hr' (by simp; exact ar303 h16 h17) (by simpa using hnd) (by simpa using hzz) hns (fun m2 run2 D2 Dr2 h2 tk2 a b c e k n => hq m2 run2 D2 Dr2 h2 tk2 a b c (by simpa using e) k n) f hf
  refine wpAny_bind (hkeep ps D [] [] none [] s _ h (.inl ⟨rfl, rfl⟩) .nil (by exact Nat.zero_le _) (by assumption) (by assumption) (Nat.le_refl _) (fun m' run' D0' Dr' h' tk hm hr h16 e hk hns => ?_) _ fun p main run => ?_)
  · dsimp only
    simp only [List.nil_append] at e
    refine wpAny_bind (hflush run' m' D0' Dr' _ _ hm hr (ar304 h16) (by rw [e]; exact hn) (by rw [e]; exact hz) hns fun m2 h2 tk2 hm2 hk2 hn2 => ?_)
    rw [e] at hm2
    rcases hm2 with ⟨_, rfl⟩ | ⟨d, kvs, rfl, hD0, hd, hv, hle⟩
    · exact absurd rfl h0
    · exact wpAny_pure (hQ d h2 kvs tk2 hle hd hv fun b o hb e => hk2 b o hb (hk b o hb e))
  · rfl
end
end Mine
end
section
open PySem PySem.W PyProof.Rows PySem.Calls
set_option Elab.async false
set_option linter.unusedVariables false
set_option maxRecDepth 100000
namespace Mine

/-! ### defs at the top, with defaults for keywords too -/
section
variable {M : Model} {A : Around} {E : Value → Shared → Prop} {s : Shared}

theorem makeFn {name qualname : Str} {params : Arguments} {body : List Stmt} {scope : Scope} {env : Env} {dv : List Value} {kdv : List (Option Value)} {mg} {c Pl : Addr} {ps : Array Value}
    {pos : Pos} {firstLine : Nat} {Q : Value → Shared → Prop} (hfree : ∀ x ∈ scope.names, x.2 ≠ .free) (hg : s.heap.Ns env.globals mg) (hcode : env.code = .ref c)
    (hok : s.heap.IsCode c Pl ps) (hnf : codeAmong pos ps.toList = none) (hgP : env.globals ≠ Pl) (hb : s.heap.BuiltinsAt mg Pl)
    (h : ∀ dV kV c' doc h' tk, (params.kwonlyargs = [] → kV = .none) → h'.DefaultsAt s.heap.objs.size dv dV → Heap.ExtBut Pl s.heap h' → s.heap.objs.size ≤ c' → c' < h'.objs.size →
      h'.IsCode c Pl (ps ++ #[rawInt pos.line, rawInt pos.col, .ref c']) → h'.CodeRec (.ref c') qualname → (∃ P', s.heap.objs.size ≤ P' ∧ h'.IsCode c' P' #[] ∧ h'.TableAt c' P' #[]) →
      Q (.ref h'.objs.size) { s with heap := h'.push { cls := .type "function", data := .func (defFd name qualname params body scope env.globals dV kV none ((mg "__name__").getD .none) (.ref c') doc) }, toks := tk }) :
    wpAny M A (makeFunction name qualname params (.stmts body) scope env dv kdv [] pos firstLine) Q E s := by
  have hPl : Pl < s.heap.objs.size := hok.lt.2
  rw [makeFunction_eq]
  generalize hkwd : ((params.kwonlyargs.zip kdv).filterMap fun (a, d) => d.map (a.arg, ·)) = kwd
  have rest : ∀ (dV : Value) (h₁ : Heap), (∀ b o, s.heap.get? b = some o → h₁.get? b = some o) → s.heap.objs.size ≤ h₁.objs.size → (∀ h', Heap.ExtBut Pl h₁ h' → h'.DefaultsAt s.heap.objs.size dv dV) →
      wpAny M A (do
          let kwdV ← if kwd.isEmpty then pure .none else do
            let d ← alloc { cls := .type "dict", data := .dict #[] }
            for (k, v) in kwd do nsSet d k v
            pure (Value.ref d)
          let ann ← if ([] : List (Str × Value)).isEmpty then pure none else do
            let ann ← alloc { cls := .type "dict", data := .dict #[] }
            for (k, v) in ([] : List (Str × Value)) do nsSet ann k v
            pure (some ann)
          makeTail name qualname params (.stmts body) scope env dV kwdV ann pos firstLine) Q E { s with heap := h₁ } := by
    intro dV h₁ keep₁ hsz₁ hdef
    cases kwd with
    | nil =>
      refine wpAny_bind (wpAny_pure ?_)
      refine wpAny_bind (wpAny_pure ?_)
      exact wpAny_makeTail_fromN (s := s) (tk₂ := s.toks) hfree hg hcode hok hnf hgP hb keep₁ hsz₁ fun c' doc h' tk hx hge hlt hok' hrec htb =>
        h dV _ c' doc h' tk (fun _ => rfl) (hdef h' hx) (fun b o hb' e => hx b o hb' (keep₁ b o e)) hge hlt hok' hrec htb
    | cons p rest =>
      refine wpAny_bind (wpAny_alloc (wpAny_bind (wpAny_forIn_nsSet h₁.objs.size _ id (fun ⟨_, _⟩ _ => rfl) (p :: rest) (fun _ => none) (Heap.Ns.new h₁ (.type "dict")) _
        fun h₂ _ hsb₂ => wpAny_bind (wpAny_pure ?_))))
      have keep₂ : ∀ b o, h₁.get? b = some o → h₂.get? b = some o := fun b o e => hsb₂.extBut b o (Nat.ne_of_lt (Heap.lt_size e)) (Heap.get?_push_of_some _ e)
      have hsz₂ : s.heap.objs.size ≤ h₂.objs.size := by
        have e : h₂.objs.size = h₁.objs.size + 1 := by have := hsb₂.1; simpa [Heap.size_push] using this
        exact ar419 hsz₁ e
      refine wpAny_bind (wpAny_pure ?_)
      exact wpAny_makeTail_fromN (s := s) hfree hg hcode hok hnf hgP hb (fun b o e => keep₂ b o (keep₁ b o e)) hsz₂ fun c' doc h' tk hx hge hlt hok' hrec htb =>
        h dV _ c' doc h' tk (fun e => by rw [e] at hkwd; simp at hkwd) (hdef h' fun b o hb' e => hx b o hb' (keep₂ b o e)) (fun b o hb' e => hx b o hb' (keep₂ b o (keep₁ b o e))) hge hlt hok' hrec htb
  cases dv with
  | nil => exact wpAny_bind (wpAny_pure (rest .none s.heap (fun _ _ e => e) (Nat.le_refl _) fun _ _ => Or.inl ⟨rfl, rfl⟩))
  | cons d ds =>
    refine wpAny_bind (wpAny_newTextTuple ?_)
    exact rest (.ref s.heap.objs.size) _ (fun b o e => Heap.get?_push_of_some _ e) (by rw [Heap.size_push]; exact ar16) fun h' hx =>
      Or.inr ⟨List.cons_ne_nil _ _, _, rfl, Nat.le_refl _, hx _ _ (Nat.ne_of_gt hPl) (Heap.get?_push_size _ rfl)⟩
end

/-! ### what the top keeps -/
def Stable (N : Nat) (Φ : Heap → Prop) : Prop := ∀ h h' : Heap, (∀ b o, N ≤ b → h.get? b = some o → h'.get? b = some o) → Φ h → Φ h'
structure TopI (h₀ : Heap) (c Pl : Addr) (h : Heap) (mg : Str → Option Value) (ps : Array Value) (Φ : Heap → Prop) : Prop where
  main : h.Main mg c Pl ps
  keep : ∀ b o, b ≠ Pl → b ≠ mainGlobals → h₀.get? b = some o → h.get? b = some o
  lowP : Pl < h₀.objs.size
  lowG : mainGlobals < h₀.objs.size
  grows : h₀.objs.size ≤ h.objs.size
  phi : Φ h
  stable : Stable h₀.objs.size Φ
def upd (mg : Str → Option Value) (x : Str) (v : Value) : Str → Option Value := fun y => if y = x then some v else mg y

structure FunAt (h : Heap) (name : Str) (params : Arguments) (body : List Stmt) (scope : Scope) (a c' P' : Addr) (dV kV pm doc : Value) : Prop where
  o : h.get? a = some { cls := .type "function", data := .func (defFd name name params body scope mainGlobals dV kV none pm (.ref c') doc) }
  rec' : h.CodeRec (.ref c') name
  code : h.IsCode c' P' #[]
  tab : h.TableAt c' P' #[]
theorem FunAt.stable {N : Nat} {name params body scope a c' P' dV kV pm doc} (ha : N ≤ a) (hc : N ≤ c') (hP : N ≤ P') : Stable N fun h => FunAt h name params body scope a c' P' dV kV pm doc := fun h h' hk x => by
  obtain ⟨o, r, cd, tb⟩ := x
  refine ⟨hk _ _ ha o, r.at fun o e => hk _ _ hc e, ?_, ?_⟩
  · obtain ⟨oc, vs, file, tf, flags, tg, inF, text, tt, op, e1, r1, r2, r3, r4, r5, r6, e2, r⟩ := cd
    exact ⟨oc, vs, file, tf, flags, tg, inF, text, tt, op, hk _ _ hc e1, r1, r2, r3, r4, r5, r6, hk _ _ hP e2, r⟩
  · obtain ⟨⟨oc', vs', e3, r'⟩, e4⟩ := tb
    exact ⟨⟨oc', vs', hk _ _ hc e3, r'⟩, hk _ _ hP e4⟩
theorem Stable.and {N : Nat} {Φ Ψ : Heap → Prop} (h : Stable N Φ) (g : Stable N Ψ) : Stable N fun x => Φ x ∧ Ψ x := fun a b k x => ⟨h a b k x.1, g a b k x.2⟩

section
variable {M : Model} {A : Around} {E : Value → Shared → Prop} {s : Shared} {prog : Program} {c Pl F : Addr} {h₀ : Heap} {mg : Str → Option Value} {ps : Array Value} {Φ : Heap → Prop} {Q : Flow → Shared → Prop}

theorem TopI.step {h : Heap} {mg' ps'} {h' : Heap} {Ψ : Heap → Prop} (X : TopI h₀ c Pl h mg ps Φ) (hm : h'.Main mg' c Pl ps') (keep : ∀ b o, b ≠ Pl → b ≠ mainGlobals → h.get? b = some o → h'.get? b = some o) (hsz : h.objs.size ≤ h'.objs.size)
    (hs : Stable h₀.objs.size Ψ) (hp : Ψ h') : TopI h₀ c Pl h' mg' ps' (fun h => Φ h ∧ Ψ h) :=
  ⟨hm, fun b o hP hG e => keep b o hP hG (X.keep b o hP hG e), X.lowP, X.lowG, Nat.le_trans X.grows hsz,
    ⟨X.stable _ _ (fun b o hb e => keep b o (Nat.ne_of_gt (Nat.lt_of_lt_of_le X.lowP hb)) (Nat.ne_of_gt (Nat.lt_of_lt_of_le X.lowG hb)) e) X.phi, hp⟩, X.stable.and hs⟩

theorem t_def {name : Str} {params : Arguments} {body : List Stmt} {scope : Scope} {pos : Pos} (X : TopI h₀ c Pl s.heap mg ps Φ)
    (hconst : ∀ e ∈ params.defaults, e.isPlainConst = true) (hkd : ∀ (s : Shared) (Q : List (Option Value) → Shared → Prop), (∀ kdv tk, Q kdv { s with toks := tk }) → wpAny M A (evalAllOpt (evalEachOpt params.kw_defaults (mainEnv prog c F))) Q E s)
    (hann0 : annTrees params none (mainEnv prog c F) = []) (hfree : ∀ x ∈ scope.names, x.2 ≠ .free) (hloc : prog.main.scope.names.lookup name = some .local)
    (hq : qualnameIn { scope := prog.main.scope, locals := mainGlobals, globals := mainGlobals, cells := [] } name name = name)
    (hnb : name ≠ "__builtins__") (hmod : prog.main.scope.kind = .module) (hnf : codeAmong pos ps.toList = none)
    (k : ∀ a c' P' dV kV pm doc vs h' tk, (params.kwonlyargs = [] → kV = .none) → s.heap.objs.size ≤ a → s.heap.objs.size ≤ c' → s.heap.objs.size ≤ P' → P' < h'.objs.size → ConstVals params.defaults vs →
      ((vs = [] ∧ dV = .none) ∨ (vs ≠ [] ∧ ∃ T, dV = .ref T ∧ s.heap.objs.size ≤ T)) →
      TopI h₀ c Pl h' (upd mg name (.ref a)) (ps ++ #[rawInt pos.line, rawInt pos.col, .ref c']) (fun h => Φ h ∧ (FunAt h name params body scope a c' P' dV kV pm doc ∧ ∀ T, dV = .ref T → h.get? T = some { cls := .type "tuple", data := .seq vs.toArray })) →
      Q .next { s with heap := h', toks := tk }) :
    wpAny M A (exec (.FunctionDef name params body [] none [] scope none name pos) (mainEnv prog c F)) Q E s := by
  have hm := X.main
  have hq' : qualnameIn (mainEnv prog c F) name name = name := hq
  rw [exec_def, hq', defaultsOf_eq, hann0]
  refine wpAny_bind (wpAny_standAt (wpAny_bind (wpAny_holding ?_)))
  refine wpAny_bind (wpAny_evalAll_consts _ _ _ hconst fun vs tk₁ hvs => ?_)
  refine wpAny_bind (wpAny_holding (hkd _ _ fun kdv tk₂ => ?_))
  refine wpAny_holding ?_
  refine wpAny_bind (wpAny_pure ?_)
  refine makeFn (s := { s with toks := tk₂ }) (env := mainEnv prog c F) (c := c) (Pl := Pl) hfree hm.g rfl hm.code hnf (Nat.ne_of_lt hm.low.2) hm.bmod
    fun dV kV c' doc h₂ tk₃ hkv hdef hx hge hlt hok hrec htb => wpAny_bind (wpAny_standAt (wpAny_bind (wpAny_bindName (wpAny_storeName_local (env := mainEnv prog c F) hloc
      ((hm.g.extBut hx (Nat.ne_of_lt hm.low.2)).push _) (fun h' hg' hs' => wpAny_pure ?_) (by show (prog.main.scope.kind == .class || (prog.main.scope.kind == .module && mainGlobals != mainGlobals)) = false; rw [hmod]; rfl)))))
  dsimp only at hg' hs' hdef hge hx htb ⊢
  obtain ⟨bm, o, hbm, hne0, hneG, hneP, hbo, hrest⟩ := hm.bmod
  have hglt : mainGlobals < h₂.objs.size := (hm.g.extBut hx (Nat.ne_of_lt hm.low.2)).lt
  have hsz : s.heap.objs.size ≤ h₂.objs.size := Nat.le_trans hge (Nat.le_of_lt hlt)
  obtain ⟨P', hP', hi, ht⟩ := htb
  have hG : ∀ b, s.heap.objs.size ≤ b → b ≠ mainGlobals := fun b hb => Nat.ne_of_gt (Nat.lt_of_lt_of_le hm.g.lt hb)
  have hsz' : h'.objs.size = h₂.objs.size + 1 := by rw [hs'.1, Heap.size_push]
  have hPlt : P' < h₂.objs.size := hi.lt.2
  have hdef' : ((vs = [] ∧ dV = .none) ∨ (vs ≠ [] ∧ ∃ T, dV = .ref T ∧ s.heap.objs.size ≤ T ∧ h'.get? T = some { cls := .type "tuple", data := .seq vs.toArray })) := by
    rcases hdef with hd | ⟨hne, T, e, hT, hg⟩
    · exact .inl hd
    · exact .inr ⟨hne, T, e, hT, (hs'.2 _ (hG _ hT)).trans (Heap.get?_push_of_some _ hg)⟩
  have hTn : ∀ T, dV = .ref T → h₀.objs.size ≤ T ∧ h'.get? T = some { cls := .type "tuple", data := .seq vs.toArray } := fun T e => by
    rcases hdef' with ⟨_, e2⟩ | ⟨_, T', e2, hT, hg⟩
    · rw [e] at e2; cases e2
    · rw [e] at e2; cases e2; exact ⟨Nat.le_trans X.grows hT, hg⟩
  refine k h₂.objs.size c' P' dV kV _ doc vs h' _ hkv hsz hge hP' (ar420 hsz' hPlt) hvs ?_ (X.step (Ψ := fun h => FunAt h name params body scope h₂.objs.size c' P' dV kV ((mg "__name__").getD .none) doc ∧ ∀ T, dV = .ref T → h.get? T = some { cls := .type "tuple", data := .seq vs.toArray }) ?_ ?_ ?_ ?_ ?_)
  · rcases hdef' with hd | ⟨hne, T, e, hT, hg⟩
    · exact .inl hd
    · exact .inr ⟨hne, T, e, hT⟩
  · exact ⟨hg', (hok.push _).sameBut hs' (Nat.ne_of_gt hm.low.1) (Nat.ne_of_gt hm.low.2), hm.low,
      ⟨bm, o, by show (if _ then _ else _) = _; simp only [Ne.symm hnb, if_false]; exact hbm, hne0, hneG, hneP, (hs'.2 _ hneG).trans (Heap.get?_push_of_some _ (hx _ _ hneP hbo)), hrest⟩⟩
  · exact fun b o' hbP hbG e => (hs'.2 _ hbG).trans (Heap.get?_push_of_some _ (hx _ _ hbP e))
  · exact ar421 hge hlt hsz'
  · refine Stable.and (FunAt.stable (Nat.le_trans X.grows hsz) (Nat.le_trans X.grows hge) (Nat.le_trans X.grows hP')) fun h h' hk x T e => hk _ _ (hTn T e).1 (x T e)
  · refine ⟨⟨(hs'.2 _ (hG _ hsz)).trans (Heap.get?_push_size _ rfl), ?_, ?_, ?_⟩, fun T e => (hTn T e).2⟩
    · obtain ⟨c₂, o₂, vs₂, t₂, e₂, g₂, r₂⟩ := hrec
      exact ⟨c₂, o₂, vs₂, t₂, e₂, (hs'.2 _ (by cases e₂; exact hG _ hge)).trans (Heap.get?_push_of_some _ g₂), r₂⟩
    · exact (hi.push _).sameBut hs' (hG _ hge) (hG _ hP')
    · exact (ht.push _).sameBut hs' (hG _ hge) (hG _ hP')

/-- x = value; the value's evaluation adds what Ψ says -/
theorem t_assign {x : Str} {pos' pos : Pos} {value : Expr} (X : TopI h₀ c Pl s.heap mg ps Φ) (hloc : prog.main.scope.names.lookup x = some .local)
    (hnb : x ≠ "__builtins__") (hmod : prog.main.scope.kind = .module) (hs : swapsWith value (some (.Name x pos')) pos.line (mainEnv prog c F) = pure false) (R : Value → (Heap → Prop) → Prop)
    (hval : ∀ Q' : Value → Shared → Prop, (∀ v h₁ tk Ψ, s.heap.objs.size ≤ h₁.objs.size → (∀ b o, s.heap.get? b = some o → h₁.get? b = some o) → Stable s.heap.objs.size Ψ → Ψ h₁ → R v Ψ → Q' v { s with heap := h₁, toks := tk }) → wpAny M A (eval value (mainEnv prog c F)) Q' E s)
    (k : ∀ v h' tk Ψ, R v Ψ → TopI h₀ c Pl h' (upd mg x v) ps (fun h => Φ h ∧ Ψ h) → s.heap.objs.size ≤ h'.objs.size → Q .next { s with heap := h', toks := tk }) :
    wpAny M A (exec (.Assign [.Name x pos'] value pos) (mainEnv prog c F)) Q E s := by
  have hm := X.main
  refine wpAny_Assign_Name (hval _ fun v h₁ tk Ψ hsz hk hst hp hR => ?_) hs
  have hm1 : h₁.Main mg c Pl ps := hm.keeps hk
  refine wpAny_storeName_local (s := { s with heap := h₁, toks := tk }) (env := mainEnv prog c F) hloc hm1.g (fun h' hg' hs' => ?_)
    (by show (prog.main.scope.kind == .class || (prog.main.scope.kind == .module && mainGlobals != mainGlobals)) = false; rw [hmod]; rfl)
  obtain ⟨bm, o, hbm, hne0, hneG, hneP, hbo, hrest⟩ := hm1.bmod
  refine k v h' _ Ψ hR (X.step ?_ (fun b o _ hG e => (hs'.2 _ hG).trans (hk b o e)) (Nat.le_trans hsz (Nat.le_of_eq hs'.1.symm)) ?_ ?_) (Nat.le_trans hsz (Nat.le_of_eq hs'.1.symm))
  · exact ⟨hg', hm1.code.sameBut hs' (Nat.ne_of_gt hm.low.1) (Nat.ne_of_gt hm.low.2), hm.low,
      ⟨bm, o, by show (if _ then _ else _) = _; simp only [Ne.symm hnb, if_false]; exact hbm, hne0, hneG, hneP, (hs'.2 _ hneG).trans hbo, hrest⟩⟩
  · exact fun h h' hk x => hst h h' (fun b o hb e => hk b o (Nat.le_trans X.grows hb) e) x
  · exact hst _ _ (fun b o hb e => (hs'.2 _ (Nat.ne_of_gt (Nat.lt_of_lt_of_le hm.g.lt hb))).trans e) hp
end
end Mine
end
section
open PySem PySem.W PyProof.Rows PySem.Calls
set_option Elab.async false
set_option linter.unusedVariables false
set_option maxRecDepth 100000
namespace Mine
theorem sub_range_set' : isSubtype (.type "range") (.type "set") = pure false := by rw [isSubtype_type]; kernel_rfl
theorem sub_range_frozenset' : isSubtype (.type "range") (.type "frozenset") = pure false := by rw [isSubtype_type]; kernel_rfl
section
variable {prog : Program} {w : World} {A : Around} {E : Value → Shared → Prop} {s : Shared}
set_option maxHeartbeats 3200000 in
theorem set_range {r : Addr} {a b : Int} {t u v : Tok} {n : Nat} {Q : Value → Shared → Prop}
    (hh : A.handled = none) (hr : IsRange s.heap r a b 1 t u v) (hsm : Builtin.Range.small a b 1 = true) (hn : Builtin.Range.rangeSize a b 1 = n) (hb : n + 1 < scanBound)
    (h : ∀ (h' : Heap) (tk : Nat), h'.SetOf (intKind prog w) s.heap.objs.size (fun k' => (firstMet (fun i => a + i * 1) n).any (· == k')) (firstMet (fun i => a + i * 1) n).length →
      (∀ b o, b < s.heap.objs.size → s.heap.get? b = some o → h'.get? b = some o) → s.heap.objs.size ≤ h'.objs.size → Q (.ref s.heap.objs.size) { s with heap := h', toks := tk }) :
    wpAny (model prog w) A (call (.type "set") [.ref r]) Q E s := by
  obtain ⟨c, tl, hmro⟩ := F.called_set.mro
  have hmade := F.called_set.made
  have hsub := F.called_set.sub
  refine wpAny_call (codeAny_of_tree ?_)
  show wpAny _ _ (callAny (.type "set") _) _ _ _
  refine wpAny_pure ⟨Code.quiet_builtin _ (by decide +kernel), codeAny_builtin F.entry_type_call ?_⟩
  rw [Around.under_plain (weight_type_call_type "set" [.ref r] []) rfl]
  have h1 := F.called_set.notType
  have h2 := F.called_set.canCreate
  have hct := F.typeCall_set_1 (.ref r)
  repeat (any_goals (first | assumption | wp_step))
  refine codeAny_mono (code_set_new_1 (.ref r) (E := E) (Q₁ := fun obj s₁ => ∃ led : Bool, obj = .ref s.heap.objs.size ∧ s₁ = { s with heap := s.heap.push { cls := .type "set", dict := none, data := .set #[] 0 (.fresh 0 0 led) } }) fun led => ⟨led, rfl, rfl⟩) fun rs s₁ hrs => ?_
  cases rs with
  | error e => exact hrs
  | ok fl =>
    cases fl with
    | ret obj =>
      obtain ⟨led, rfl, rfl⟩ := hrs
      have hS : (s.heap.push { cls := .type "set", dict := none, data := .set #[] 0 (.fresh 0 0 led) }).get? s.heap.objs.size = some { cls := .type "set", dict := none, data := .set #[] 0 (.fresh 0 0 led) } := Heap.get?_push_size _ rfl
      have hT : Shared.TypeIs { s with heap := s.heap.push { cls := .type "set", dict := none, data := .set #[] 0 (.fresh 0 0 led) } } (.ref s.heap.objs.size) "set" := ⟨_, hS, rfl⟩
      have hli := F.called_set.init.lookup
      have hbi := F.called_set.init.bind (.ref s.heap.objs.size)
      repeat (any_goals (first | assumption | wp_step))
      refine codeAny_mono (codeAny_call_builtin (R := wants (fun rv s₂ => rv = .none ∧ ∃ h' tk, s₂ = { s with heap := h', toks := tk } ∧
          h'.SetOf (intKind prog w) s.heap.objs.size (fun k' => (firstMet (fun i => a + i * 1) n).any (· == k')) (firstMet (fun i => a + i * 1) n).length ∧
          (∀ b o, b < s.heap.objs.size → s.heap.get? b = some o → h'.get? b = some o)) E) F.called_set.init.plain F.entry_set_init (check_set_init_1 hT ?_)) fun r₂ s₂ hr₂ => ?_
      · have hr' : (s.heap.push { cls := .type "set", dict := none, data := .set #[] 0 (.fresh 0 0 led) }).get? r = some { cls := .type "range", dict := none, data := .fields #[.int a t, .int b u, .int 1 v], slots := #[] } := Heap.get?_push_of_some _ hr
        have hsls := sub_range_set'
        have hslf := sub_range_frozenset'
        have hne : (Value.type "range" == Value.type "dict") = false := by decide
        unfold Builtin.«set.__init__» noKeywords Builtin.Frozenset.updateFrom
        generalize hPI : pyIter = PI
        wp_walk
        subst hPI
        refine wpAny_pyIter_range hr' hsm ?_
        refine wpAny_bind (wpAny_runValue ?_)
        have hlS : r < s.heap.objs.size := Heap.lt_size hr
        have hh3 : A.in1.in1.in1.handled = none := by simp [hh]
        have hSf : s.heap.objs.size ∉ [(s.heap.push { cls := .type "set", dict := none, data := .set #[] 0 (.fresh 0 0 led) }).objs.size] := by
          rw [Heap.size_push]; simp only [List.mem_singleton]
          exact Nat.ne_of_lt (Nat.lt_succ_self _)
        refine codeAny_set_update_loopS ((Walks.range hh3 _ a 1 n).toS) s.heap.objs.size
          hSf (fun i => a + i * 1) (fun i v hv => hv) hb (n - 0) 0 _ (ar116) (Nat.zero_le _) ?hit ?hS0 ?hR
        case hit =>
          have e1 : a + ((0 : Nat) : Int) * 1 = a := by simp
          have e2 : (n : Int) - ((0 : Nat) : Int) = n := by simp
          rw [e1, e2, hn]; exact Heap.get?_push_size _ rfl
        case hS0 =>
          have hget : ((s.heap.push { cls := .type "set", dict := none, data := .set #[] 0 (.fresh 0 0 led) }).push { cls := .type "range_iterator", data := .fields #[rawInt a, rawInt (Builtin.Range.rangeSize a b 1), rawInt 1] }).get? s.heap.objs.size
              = some { cls := .type "set", dict := none, data := .set #[] 0 (.fresh 0 0 led) } := Heap.get?_push_of_some _ hS
          exact SetOf_congr ((setObjOf_fresh (knd := intKind prog w) led).setOf hget (by unfold scanBound; exact ar117)) (fun _ => rfl) rfl
        case hR =>
          intro s' hm hS'
          obtain ⟨h', g', d', tk', os'⟩ := s'
          have eg : g' = s.gens := hm.gens
          have ed : d' = s.drawn := hm.drawn
          have eo : os' = s.os := hm.os
          subst eg; subst ed; subst eo
          show wpAny _ _ _ _ _ _
          refine wpAny_pure ?_
          show wpAny _ _ (ret Value.none) _ _ _
          refine wpAny_pure ⟨rfl, h', tk', rfl, hS', fun b o hb e => ?_⟩
          have hb1 : b ≠ s.heap.objs.size := Nat.ne_of_lt hb
          have hb2 : b ≠ (s.heap.push { cls := .type "set", dict := none, data := .set #[] 0 (.fresh 0 0 led) }).objs.size := by
            rw [Heap.size_push]; exact Nat.ne_of_lt (Nat.lt_succ_of_lt hb)
          exact hm.heap b o (by simp only [List.mem_cons, List.mem_singleton, List.not_mem_nil, or_false, not_or]; exact ⟨hb1, hb2⟩) (Heap.get?_push_of_some _ (Heap.get?_push_of_some _ e))
      · cases r₂ with
        | error e => exact hr₂
        | ok fl₂ =>
          cases fl₂ with
          | ret rv =>
            obtain ⟨rfl, h', tk, rfl, hS', hk'⟩ := hr₂
            repeat (any_goals (first | assumption | wp_step))
            refine h _ _ hS' hk' ?_
            obtain ⟨o, es, ep, tb, ho, _⟩ := hS'
            exact Nat.le_of_lt (Heap.lt_size ho)
          | _ => exact hr₂.elim
    | _ => exact hrs.elim
end
end Mine
end
section
open PySem PySem.W PyProof.Rows PySem.Calls
set_option Elab.async false
set_option linter.unusedVariables false
set_option maxRecDepth 100000
namespace Mine
def litInts : List Expr → Option (List Int)
  | [] => some []
  | .Constant (.int i) _ _ :: r => (litInts r).map (i :: ·)
  | _ => none
def rng (a : Int) (n : Nat) : List Int := (List.range n).map fun i => a + (i : Nat)

section
variable {prog : Program} {w : World} {A : Around} {E : Value → Shared → Prop} {s : Shared} {c F : Addr} {mg mb : Str → Option Value}

theorem m_name {x : Str} {v : Value} {p : Pos} {Q : Value → Shared → Prop} (hmod : prog.main.scope.kind = .module) (hg : s.heap.Ns mainGlobals mg) (hmg : mg x = none) (hb : s.heap.Ns builtinsNs mb) (hmb : mb x = some v) (h : Q v s) (hd : (x == ("__debug__" : Str)) = false) :
    wpAny (model prog w) A (eval (.Name x p) (mainEnv prog c F)) Q E s := by
  refine wpAny_Name ?_ hd
  have e : loadName (mainEnv prog c F) x = loadGlobal (mainEnv prog c F) x := by
    unfold loadName
    simp [Env.blockKind, mainEnv, hmod, ScopeKind.isAnnotationScope]
  rw [e]
  exact Calls.loadGlobal_builtin hg hmg hb hmb h

theorem litInts_cons {e : Expr} {r : List Expr} {ns : List Int} (h : litInts (e :: r) = some ns) : ∃ i k p ms, e = .Constant (.int i) k p ∧ litInts r = some ms ∧ ns = i :: ms := by
  unfold litInts at h
  split at h
  · rename_i h1; cases h1
  · rename_i h1; cases h1
    obtain ⟨ms, hm, rfl⟩ := Option.map_eq_some_iff.mp h
    exact ⟨_, _, _, ms, rfl, hm, rfl⟩
  · cases h
theorem ints_spliced {env : Env} {pos : Pos} (es : List Expr) : ∀ (ns : List Int) (s : Shared) (Q : List Value → Shared → Prop), litInts es = some ns → (∀ vs tk, IntsAre vs ns → Q vs { s with toks := tk }) →
    wpAny (model prog w) A (spliced (backTo pos (starEach es env))) Q E s := by
  induction es with
  | nil => intro ns s Q h hQ; cases h; exact Calls.spliced_nil (hQ [] s.toks .nil)
  | cons e r ih =>
    intro ns s Q h hQ
    obtain ⟨i, k, p, ms, rfl, hm, rfl⟩ := litInts_cons h
    rw [show starEach (.Constant (.int i) k p :: r) env = (false, eval (.Constant (.int i) k p) env) :: starEach r env from rfl]
    exact Calls.spliced_cons (wpAny_Constant_int (k := k) (pos := p) (ih ms _ _ hm fun vs tk hv => hQ _ _ (.cons _ _ hv)))

/-- one argument, a type called by its name -/
theorem m_callt1 {fx : Str} {T : String} {p pos : Pos} {e : Expr} {Q : Value → Shared → Prop} (hmod : prog.main.scope.kind = .module) (hg : s.heap.Ns mainGlobals mg) (hmg : mg fx = none) (hb : s.heap.Ns builtinsNs mb) (hmb : mb fx = some (.type T))
    (hd : (fx == ("__debug__" : Str)) = false) (he : starEach [e] (mainEnv prog c F) = [(false, eval e (mainEnv prog c F))])
    (h : wpAny (model prog w) A (eval e (mainEnv prog c F)) (fun v s1 => wpAny (model prog w) A (call (.type T) [v]) Q E s1) E s) : wpAny (model prog w) A (eval (.Call (.Name fx p) [e] [] pos) (mainEnv prog c F)) Q E s := by
  refine wpAny_Call_Name_kw (m_name hmod hg hmg hb hmb ?_ hd)
  rw [he]
  refine PySem.callWith_type (by rfl) (Calls.evalArgs_plain (Calls.spliced_cons (wpAny_mono h (fun v s1 h1 => Calls.spliced_nil h1) fun _ _ e => e)))
theorem m_range {p pos p1 p2 : Pos} {k1 k2} {a b : Int} {fx : Str} {Q : Value → Shared → Prop} (hmod : prog.main.scope.kind = .module) (hg : s.heap.Ns mainGlobals mg) (hmg : mg fx = none) (hb : s.heap.Ns builtinsNs mb) (hmb : mb fx = some (.type "range"))
    (hd : (fx == ("__debug__" : Str)) = false)
    (h : ∀ t u v tk, Q (.ref s.heap.objs.size) { s with heap := s.heap.push { cls := .type "range", data := .fields #[.int a t, .int b u, .int 1 v] }, toks := tk }) :
    wpAny (model prog w) A (eval (.Call (.Name fx p) [.Constant (.int a) k1 p1, .Constant (.int b) k2 p2] [] pos) (mainEnv prog c F)) Q E s := by
  refine wpAny_Call_Name_kw (m_name hmod hg hmg hb hmb ?_ hd)
  rw [show starEach [Expr.Constant (.int a) k1 p1, .Constant (.int b) k2 p2] (mainEnv prog c F) = (false, eval (.Constant (.int a) k1 p1) (mainEnv prog c F)) :: (false, eval (.Constant (.int b) k2 p2) (mainEnv prog c F)) :: [] from rfl]
  refine PySem.callWith_type (by rfl) (Calls.evalArgs_plain (Calls.spliced_cons (wpAny_Constant_int (k := k1) (pos := p1) (Calls.spliced_cons (wpAny_Constant_int (k := k2) (pos := p2) (Calls.spliced_nil ?_))))))
  exact call_range_2 (h _ _ _ _)

theorem rng_ints {a : Int} {n : Nat} {acc : Array Value} (h : ItemsOf (fun i v => ∃ t, v = .int (a + i * 1) t) acc n) : IntsAre acc.toList (rng a n) := by
  obtain ⟨hs, hi⟩ := h
  have key : ∀ (l : List Value) (ns : List Int), l.length = ns.length → (∀ (j : Nat) v k, l[j]? = some v → ns[j]? = some k → ∃ t, v = .int k t) → IntsAre l ns := by
    intro l
    induction l with
    | nil => intro ns hl _; cases ns with | nil => exact .nil | cons => simp at hl
    | cons v l ih =>
      intro ns hl hj
      cases ns with
      | nil => simp at hl
      | cons k ns =>
        obtain ⟨t, rfl⟩ := hj 0 v k (by simp) (by simp)
        exact .cons _ _ (ih ns (by simpa using hl) fun j v k h1 h2 => hj (j + 1) v k (by simpa using h1) (by simpa using h2))
  refine key _ _ (by simp [rng, hs]) fun j v k h1 h2 => ?_
  obtain ⟨t, rfl⟩ := hi j v (by simpa using h1)
  have : j < n := by
    have := (List.getElem?_eq_some_iff.mp h2).1
    simpa [rng] using this
  simp [rng, this] at h2
  exact ⟨t, by rw [← h2]; simp⟩

theorem m_list_range {p pos p1 p2 p3 pos3 : Pos} {k1 k2} {a b : Int} {n : Nat} {fx fl : Str} {Q : Value → Shared → Prop} (hh : A.handled = none) (hmod : prog.main.scope.kind = .module) (hg : s.heap.Ns mainGlobals mg) (hb : s.heap.Ns builtinsNs mb)
    (hmg : mg fx = none) (hmb : mb fx = some (.type "range")) (hd : (fx == ("__debug__" : Str)) = false) (hmg' : mg fl = none) (hmb' : mb fl = some (.type "list")) (hd' : (fl == ("__debug__" : Str)) = false)
    (hsm : Builtin.Range.small a b 1 = true) (hn : Builtin.Range.rangeSize a b 1 = n) (hlen : n ≤ 2 ^ 24)
    (h : ∀ l h' tk items c', (∀ b o, s.heap.get? b = some o → h'.get? b = some o) → h'.get? l = some { cls := .type "list", dict := none, data := .seq items c', slots := #[] } → IntsAre items.toList (rng a n) → Q (.ref l) { s with heap := h', toks := tk }) :
    wpAny (model prog w) A (eval (.Call (.Name fl p3) [.Call (.Name fx p) [.Constant (.int a) k1 p1, .Constant (.int b) k2 p2] [] pos] [] pos3) (mainEnv prog c F)) Q E s := by
  refine m_callt1 hmod hg hmg' hb hmb' hd' rfl (m_range hmod hg hmg hb hmb hd fun t u v tk => ?_)
  refine call_list_range (t := t) (u := u) (v := v) hh (IsRange.new _ a b 1 t u v) hsm hn hlen fun h' tk' acc' c' hk ho hi => ?_
  exact h _ h' tk' acc' c' (fun b o e => hk b o (Heap.get?_push_of_some _ e)) ho (rng_ints hi)

/-- what is told of a value that is a new object -/
def NewObj (N : Nat) (P : Obj → Prop) (v : Value) (Ψ : Heap → Prop) : Prop := ∃ a o, v = .ref a ∧ N ≤ a ∧ P o ∧ (Ψ = fun h => h.get? a = some o)

theorem set_any (val : Nat → Int) (n : Nat) {h : Heap} {a : Addr} (ns : List Int) (hv : (List.range n).map val = ns) (hS : h.SetOf (intKind prog w) a (fun k' => (firstMet val n).any (· == k')) (firstMet val n).length) :
    ∃ o, h.get? a = some o ∧ ∃ m, o.SetObjOf (intKind prog w) (fun k => ns.any (· == k)) m ∧ m < scanBound := by
  have hlt : (firstMet val n).length < scanBound := by obtain ⟨o, es, ep, t, _, _, _, _, _, h1, _, h2⟩ := hS; exact ar279 h1 h2
  obtain ⟨o, ho, hs⟩ := (SetOf_congr (S' := fun k => ns.any (· == k)) (n' := (firstMet val n).length) hS (fun k => by rw [firstMet_any, hv]) rfl).objOf
  exact ⟨o, ho, _, hs, hlt⟩

theorem m_set_range {p pos p1 p2 p3 pos3 : Pos} {k1 k2} {a b : Int} {n : Nat} {fx fs : Str} {Q : Value → Shared → Prop} (hh : A.handled = none) (hmod : prog.main.scope.kind = .module) (hg : s.heap.Ns mainGlobals mg) (hb : s.heap.Ns builtinsNs mb)
    (hmg : mg fx = none) (hmb : mb fx = some (.type "range")) (hd : (fx == ("__debug__" : Str)) = false) (hmg' : mg fs = none) (hmb' : mb fs = some (.type "set")) (hd' : (fs == ("__debug__" : Str)) = false)
    (hsm : Builtin.Range.small a b 1 = true) (hn : Builtin.Range.rangeSize a b 1 = n) (hlen : n + 1 < scanBound)
    (h : ∀ v h₁ tk Ψ, s.heap.objs.size ≤ h₁.objs.size → (∀ b o, s.heap.get? b = some o → h₁.get? b = some o) → Stable s.heap.objs.size Ψ → Ψ h₁ →
      NewObj s.heap.objs.size (fun o => ∃ m, o.SetObjOf (intKind prog w) (fun k => (rng a n).any (· == k)) m ∧ m < scanBound) v Ψ → Q v { s with heap := h₁, toks := tk }) :
    wpAny (model prog w) A (eval (.Call (.Name fs p3) [.Call (.Name fx p) [.Constant (.int a) k1 p1, .Constant (.int b) k2 p2] [] pos] [] pos3) (mainEnv prog c F)) Q E s := by
  refine m_callt1 hmod hg hmg' hb hmb' hd' rfl (m_range hmod hg hmg hb hmb hd fun t u v tk => ?_)
  refine set_range hh (IsRange.new _ a b 1 t u v) hsm hn hlen fun h' tk' hS hk hsz => ?_
  rw [Heap.size_push] at hsz
  obtain ⟨o, ho, hm⟩ := set_any (fun i => a + i * 1) n (rng a n) (by simp [rng]) hS
  rw [Heap.size_push] at ho
  refine h _ h' tk' (fun h => h.get? (s.heap.objs.size + 1) = some o) (ar2 hsz) (fun b o e => hk b o (by rw [Heap.size_push]; exact Nat.lt_succ_of_lt (Heap.lt_size e)) (Heap.get?_push_of_some _ e)) (fun h h' hk x => hk _ _ (ar16) x) ho ⟨s.heap.objs.size + 1, o, ?_, ar16, hm, rfl⟩
  rw [Heap.size_push]

theorem m_set_list {p pos p1 p2 p3 pos3 p4 p5 p6 pos6 : Pos} {k1 k2} {a b : Int} {n : Nat} {fx fs fl : Str} {es : List Expr} {ns : List Int} {Q : Value → Shared → Prop} (hh : A.handled = none) (hmod : prog.main.scope.kind = .module) (hg : s.heap.Ns mainGlobals mg) (hb : s.heap.Ns builtinsNs mb)
    (hmg : mg fx = none) (hmb : mb fx = some (.type "range")) (hd : (fx == ("__debug__" : Str)) = false) (hmg' : mg fs = none) (hmb' : mb fs = some (.type "set")) (hd' : (fs == ("__debug__" : Str)) = false)
    (hmgl : mg fl = none) (hmbl : mb fl = some (.type "list")) (hdl : (fl == ("__debug__" : Str)) = false) (hes : litInts es = some ns)
    (hsm : Builtin.Range.small a b 1 = true) (hn : Builtin.Range.rangeSize a b 1 = n) (hlen : ns.length + n + 1 < scanBound)
    (h : ∀ v h₁ tk Ψ, s.heap.objs.size ≤ h₁.objs.size → (∀ b o, s.heap.get? b = some o → h₁.get? b = some o) → Stable s.heap.objs.size Ψ → Ψ h₁ →
      NewObj s.heap.objs.size (fun o => ∃ m, o.SetObjOf (intKind prog w) (fun k => (ns ++ rng a n).any (· == k)) m ∧ m < scanBound) v Ψ → Q v { s with heap := h₁, toks := tk }) :
    wpAny (model prog w) A (eval (.Call (.Name fs p3) [.BinOp (.List es p4) .Add (.Call (.Name fl p6) [.Call (.Name fx p) [.Constant (.int a) k1 p1, .Constant (.int b) k2 p2] [] pos] [] pos6) p5] [] pos3) (mainEnv prog c F)) Q E s := by
  have hsc : scanBound = 4096 := rfl
  refine m_callt1 hmod hg hmg' hb hmb' hd' rfl (wpAny_BinOp (List_ (ints_spliced es ns _ _ hes fun vs tk hv => ?_)))
  have hvl : vs.length = ns.length := IntsAre.length hv
  refine wpAny_newObj_type ?_ (by show vs.toArray.size ≤ sizeLine; rw [List.size_toArray, hvl, sizeLine_eq]; exact ar280 hlen hsc)
  have k1 : ∀ b o, s.heap.get? b = some o → (s.heap.push { cls := .type "list", data := .seq vs.toArray }).get? b = some o := fun b o e => Heap.get?_push_of_some _ e
  refine m_list_range hh hmod (hg.keeps k1) (hb.keeps k1) hmg hmb hd hmgl hmbl hdl hsm hn (ar281 hlen hsc) fun l h' tk' items c' hk ho hi => ?_
  have hl1 : IsL h' s.heap.objs.size vs.toArray 0 := hk _ _ (Heap.get?_push_size _ rfl)
  have hl2 : IsL h' l items c' := ho
  have hil : items.size = n := by have := IntsAre.length hi; simpa [rng] using this
  refine P.add_list hl1 hl2 ?_ (by rw [List.size_toArray, hvl, hil, sizeLine_eq]; exact ar282 hlen hsc)
  have hN : s.heap.objs.size ≤ h'.objs.size := Nat.le_of_lt (Heap.lt_size hl1)
  have hL : (h'.push { cls := .type "list", data := .seq (vs.toArray ++ items) }).IsList h'.objs.size (vs.toArray ++ items) := ⟨_, Heap.get?_push_size _ rfl, rfl, 0, rfl⟩
  refine call_set_list (ns := ns ++ rng a n) hh hL (by simpa using hv.append hi) (by rw [Array.size_append, List.size_toArray, hvl, hil]; exact hlen) fun h2 tk2 hS hk2 => ?_
  have hsz : (vs.toArray ++ items).size = (ns ++ rng a n).length := by simp [hvl, hil, rng]
  obtain ⟨o, ho2, hm⟩ := set_any (fun i => (ns ++ rng a n).getD i 0) (vs.toArray ++ items).size (ns ++ rng a n) (by
    rw [hsz]
    apply List.ext_getElem
    · simp
    · intro i h1 h2
      rw [List.getElem_map, List.getElem_range, List.getD_eq_getElem?_getD, List.getElem?_eq_getElem h2]; rfl) hS
  simp only [Heap.size_push] at ho2 hk2
  have hlt : h'.objs.size + 1 < h2.objs.size := Heap.lt_size ho2
  refine h _ h2 tk2 (fun h => h.get? (h'.objs.size + 1) = some o) (ar284 hN hlt) (fun b o e => ?_) (fun h h' hk x => hk _ _ (ar17 hN) x) ho2 ⟨h'.objs.size + 1, o, ?_, (ar17 hN), hm, rfl⟩
  · have e1 := hk b o (k1 b o e)
    exact hk2 b o (Nat.lt_succ_of_lt (Heap.lt_size e1)) (Heap.get?_push_of_some _ e1)
  · simp only [Heap.size_push]
end
end Mine
end
section
open PySem PySem.W PyProof.Rows PySem.Calls
set_option Elab.async false
set_option linter.unusedVariables false
set_option maxRecDepth 100000
namespace Mine
def cstOf : Expr → Const × Nat × Pos
  | .Constant c k p => (c, k, p)
  | _ => (.none, 0, default)
def intOf : Const → Int
  | .int i => i
  | _ => 0
def strOf : Const → Str
  | .str x => x
  | _ => ⟨#[]⟩
def mkK (d : Int × Nat × Pos) : Option Expr := some (.Constant (.int d.1) d.2.1 d.2.2)
def mkV (d : Str × Nat × Pos) : Expr := .Constant (.str d.1) d.2.1 d.2.2
def kD (ks : List (Option Expr)) : List (Int × Nat × Pos) := ks.map fun o => (intOf (cstOf (o.getD (.Constant .none 0 default))).1, (cstOf (o.getD (.Constant .none 0 default))).2)
def vD (vs : List Expr) : List (Str × Nat × Pos) := vs.map fun e => (strOf (cstOf e).1, (cstOf e).2)
def kvD (K : List (Int × Nat × Pos)) (V : List (Str × Nat × Pos)) : List (Int × Str) := K.zipWith (fun k v => (k.1, v.1)) V
section
variable {prog : Program} {w : World} {A : Around} {E : Value → Shared → Prop} {s : Shared} {c F : Addr} {mg mb : Str → Option Value}

theorem litKVs_facts {env : Env} {pos : Pos} (K : List (Int × Nat × Pos)) : ∀ (V : List (Str × Nat × Pos)), K.length = V.length → (K.map mkK).all (·.isSome) = true ∧ (K.map mkK).length = (V.map mkV).length ∧ LitsP prog w A (pairTrees (K.map mkK) (V.map mkV) env pos) (kvD K V) := by
  induction K with
  | nil =>
    intro V h
    cases V with
    | nil => exact ⟨rfl, rfl, .nil⟩
    | cons => cases h
  | cons d K ih =>
    intro V h
    cases V with
    | nil => cases h
    | cons e V =>
      obtain ⟨h1, h2, h3⟩ := ih V (Nat.succ.inj h)
      refine ⟨h1, congrArg (· + 1) h2, ?_⟩
      refine .cons ⟨fun s Q E h => wpAny_Constant_int (env := env) (k := d.2.1) (pos := d.2.2) (h _ _), fun s Q E h => ?_⟩ h3
      exact wpAny_bind (wpAny_Constant_str (env := env) (k := e.2.1) (pos := e.2.2) (wpAny_bind (wpAny_standAt (wpAny_pure (h _ _)))))
theorem m_dict {env : Env} {keys : List (Option Expr)} {values : List Expr} {pos : Pos} {K : List (Int × Nat × Pos)} {V : List (Str × Nat × Pos)} {Q : Value → Shared → Prop} (hk : keys = K.map mkK) (hv : values = V.map mkV) (hl : K.length = V.length) {D : List (Int × Str)} (hD : D = kvD K V) (hn : (D.map (·.1)).Nodup) (hz : D.length ≤ 100000) (h0 : D ≠ []) (hsys : sysModules < s.heap.objs.size)
    (h : ∀ v h₁ tk Ψ, s.heap.objs.size ≤ h₁.objs.size → (∀ b o, s.heap.get? b = some o → h₁.get? b = some o) → Stable s.heap.objs.size Ψ → Ψ h₁ →
      NewObj s.heap.objs.size (fun o => ∃ kvs, o.IsDictOf (intKind prog w) kvs ∧ SV kvs D) v Ψ → Q v { s with heap := h₁, toks := tk }) :
    wpAny (model prog w) A (eval (.Dict keys values pos) env) Q E s := by
  subst hk hv hD
  obtain ⟨h1, h2, h3⟩ := litKVs_facts (prog := prog) (w := w) (A := A) (env := env) (pos := pos) K V hl
  rw [arm_eval_Dict, zip_pairTrees _ _ env pos h1 h2]
  refine wpAny_bind (wpAny_standAt (display_lit h3 hn hz h0 hsys fun a h' kvs tk ha hd hv hk => ?_))
  obtain ⟨o, ho, hdo⟩ := Heap.dictOf_iff.mp hd
  have hlt : a < h'.objs.size := Heap.lt_size ho
  exact h _ h' tk (fun h => h.get? a = some o) (ar306 ha hlt) (fun b o e => hk b o (Heap.lt_size e) e) (fun h h' hk x => hk _ _ ha x) ho ⟨a, o, rfl, ha, ⟨kvs, hdo, hv⟩, rfl⟩
theorem kd_nil {l : List (Option Expr)} {env : Env} (hl : l = []) : ∀ (s : Shared) (Q : List (Option Value) → Shared → Prop), (∀ kdv tk, Q kdv { s with toks := tk }) → wpAny (model prog w) A (evalAllOpt (evalEachOpt l env)) Q E s := by
  subst hl; intro s Q h; exact wpAny_pure (h [] s.toks)
theorem kd_none {l : List (Option Expr)} {env : Env} {k p} (hl : l = [some (.Constant .none k p)]) : ∀ (s : Shared) (Q : List (Option Value) → Shared → Prop), (∀ kdv tk, Q kdv { s with toks := tk }) → wpAny (model prog w) A (evalAllOpt (evalEachOpt l env)) Q E s := by
  subst hl; intro s Q h
  exact wpAny_bind (wpAny_Constant_none (k := k) (pos := p) (wpAny_bind (wpAny_holding (wpAny_pure (wpAny_pure (h _ s.toks))))))
end
/-! ### the top, by its places -/
abbrev pw : Program := PySem.Challenge.pw_rl0096_01
def fName : Option Stmt → Str
  | some (.FunctionDef n _ _ _ _ _ _ _ _ _) => n
  | some (.Assign [.Name n _] _ _) => n
  | _ => ⟨#[]⟩
def fPos : Option Stmt → Pos
  | some (.FunctionDef _ _ _ _ _ _ _ _ _ p) => p
  | some (.Assign _ _ p) => p
  | _ => default
def fNPos : Option Stmt → Pos
  | some (.Assign [.Name _ p] _ _) => p
  | _ => default
def fVal : Option Stmt → Expr
  | some (.Assign _ v _) => v
  | _ => .Constant .none 0 default
def tF (i : Nat) : Stmt := .FunctionDef (fName (sN i)) (fArgs (sN i)) (fBody (sN i)) [] none [] (fScope (sN i)) none (fName (sN i)) (fPos (sN i))
def tA (i : Nat) : Stmt := .Assign [.Name (fName (sN i)) (fNPos (sN i))] (fVal (sN i)) (fPos (sN i))
theorem body_eq : pw.main.body = [tA 0, tF 1, tF 2, tA 3, tA 4, tF 5, tA 6, tF 7, tA 8, tF 9, tA 10, tA 11, tA 12, tF 13, tF 14, tA 15, tF 16, tF 17, tF 18, tF 19, tF 20, tF 21, tF 22] := by kernel_rfl
def dKeys : Expr → List (Option Expr)
  | .Dict ks _ _ => ks
  | _ => []
def dVals : Expr → List Expr
  | .Dict _ vs _ => vs
  | _ => []
def b3K : List (Int × Nat × Pos) := kD (dKeys (fVal (sN 6)))
def b3V : List (Str × Nat × Pos) := vD (dVals (fVal (sN 6)))
def b3D : List (Int × Str) := kvD b3K b3V
theorem b3_k : dKeys (fVal (sN 6)) = b3K.map mkK := by kernel_rfl
theorem b3_v : dVals (fVal (sN 6)) = b3V.map mkV := by kernel_rfl
theorem b3_d : b3D = kvD b3K b3V := rfl
theorem b3_l : b3K.length = b3V.length := by decide +kernel
def incr : List Int → Bool
  | a :: b :: r => decide (a < b) && incr (b :: r)
  | _ => true
theorem incr_pw : ∀ (l : List Int), incr l = true → l.Pairwise (· < ·)
  | [], _ => .nil
  | [a], _ => by simp
  | a :: b :: r, h => by
    simp only [incr, Bool.and_eq_true, decide_eq_true_eq] at h
    have ih := incr_pw (b :: r) h.2
    rw [List.pairwise_cons] at ih ⊢
    refine ⟨fun x hx => ?_, List.pairwise_cons.mpr ih⟩
    rcases List.mem_cons.mp hx with rfl | hx
    · exact h.1
    · have := ih.1 x hx; lia
theorem b3_nodup : (b3D.map (·.1)).Nodup := by
  have h : incr (b3D.map (·.1)) = true := by rfl
  exact (incr_pw _ h).imp fun a => ar307 a
theorem b3_len : b3D.length ≤ 100000 := by decide +kernel
theorem b3_ne : b3D ≠ [] := fun e => by
  have : b3D.length = 0 := by rw [e]; rfl
  have h : ¬ b3D.length = 0 := by decide +kernel
  exact h this
end Mine
end
section
open PySem PySem.W PyProof.Rows PySem.Calls
set_option Elab.async false
set_option linter.unusedVariables false
set_option maxRecDepth 100000
namespace Mine

structure IsDef (i : Nat) (N lo hi : Nat) (a c' P' : Addr) (dV kV pm doc : Value) (Ψ : Heap → Prop) : Prop where
  na : N ≤ a
  nc : N ≤ c'
  nP : N ≤ P'
  lo : lo ≤ P'
  hi : P' < hi
  f : ∀ h, Ψ h → FunAt h (fName (sN i)) (fArgs (sN i)) (fBody (sN i)) (fScope (sN i)) a c' P' dV kV pm doc
  k : (fArgs (sN i)).kwonlyargs = [] → kV = .none
  d : ((fArgs (sN i)).defaults = [] ∧ dV = .none) ∨ ∃ T vs, vs ≠ [] ∧ dV = .ref T ∧ N ≤ T ∧ ConstVals (fArgs (sN i)).defaults vs ∧ ∀ h, Ψ h → h.get? T = some { cls := .type "tuple", data := .seq vs.toArray }

theorem constVals_nil {es : List Expr} (h : ConstVals es []) : es = [] := by
  cases es with
  | nil => rfl
  | cons => exact h.elim

section
variable {w : World} {A : Around} {E : Value → Shared → Prop} {s : Shared} {c Pl F : Addr} {h₀ : Heap} {mg : Str → Option Value} {ps : Array Value} {Φ : Heap → Prop} {Q : Flow → Shared → Prop}

/-- the rest of the top is to be walked -/
structure EX (w : World) (A : Around) (c F : Addr) (E : Value → Shared → Prop) (sts : List Stmt) (Q : Flow → Shared → Prop) (s : Shared) : Prop where
  get : wpAny (model pw w) A (execs sts (mainEnv pw c F)) Q E s
theorem step_F (i : Nat) {rest : List Stmt} (X : TopI h₀ c Pl s.heap mg ps Φ)
    (hconst : ∀ e ∈ (fArgs (sN i)).defaults, e.isPlainConst = true) (hkd : ∀ (s : Shared) (Q : List (Option Value) → Shared → Prop), (∀ kdv tk, Q kdv { s with toks := tk }) → wpAny (model pw w) A (evalAllOpt (evalEachOpt (fArgs (sN i)).kw_defaults (mainEnv pw c F))) Q E s)
    (hann0 : annTrees (fArgs (sN i)) none (mainEnv pw c F) = []) (hfree : ∀ x ∈ (fScope (sN i)).names, x.2 ≠ .free) (hloc : pw.main.scope.names.lookup (fName (sN i)) = some .local)
    (hq : qualnameIn { scope := pw.main.scope, locals := mainGlobals, globals := mainGlobals, cells := [] } (fName (sN i)) (fName (sN i)) = fName (sN i))
    (hnb : fName (sN i) ≠ "__builtins__") (hnf : codeAmong (fPos (sN i)) ps.toList = none)
    (k : ∀ a c' P' dV kV pm doc Ψ h' tk, IsDef i h₀.objs.size s.heap.objs.size h'.objs.size a c' P' dV kV pm doc Ψ →
      TopI h₀ c Pl h' (upd mg (fName (sN i)) (.ref a)) (ps ++ #[rawInt (fPos (sN i)).line, rawInt (fPos (sN i)).col, .ref c']) (fun h => Φ h ∧ Ψ h) → EX w A c F E rest Q { s with heap := h', toks := tk }) :
    EX w A c F E (tF i :: rest) Q s := by
  refine ⟨wpAny_execs_cons ?_⟩
  have hmod : pw.main.scope.kind = .module := by kernel_rfl
  refine t_def X hconst hkd hann0 hfree hloc hq hnb hmod hnf fun a c' P' dV kV pm doc vs h' tk hk ha hc hP hlt hcv hd X' => ?_
  refine EX.get (k a c' P' dV kV pm doc _ h' tk ⟨Nat.le_trans X.grows ha, Nat.le_trans X.grows hc, Nat.le_trans X.grows hP, hP, hlt, fun h x => x.1, hk, ?_⟩ X')
  rcases hd with ⟨rfl, rfl⟩ | ⟨hne, T, rfl, hT⟩
  · exact .inl ⟨constVals_nil hcv, rfl⟩
  · exact .inr ⟨T, vs, hne, rfl, Nat.le_trans X.grows hT, hcv, fun h x => x.2 T rfl⟩

/-- a value is reckoned -/
structure VX (w : World) (A : Around) (c F : Addr) (E : Value → Shared → Prop) (s : Shared) (e : Expr) (R : Value → (Heap → Prop) → Prop) : Prop where
  get : ∀ Q' : Value → Shared → Prop, (∀ v h₁ tk Ψ, s.heap.objs.size ≤ h₁.objs.size → (∀ b o, s.heap.get? b = some o → h₁.get? b = some o) → Stable s.heap.objs.size Ψ → Ψ h₁ → R v Ψ → Q' v { s with heap := h₁, toks := tk }) → wpAny (model pw w) A (eval e (mainEnv pw c F)) Q' E s
theorem step_A (i : Nat) {rest : List Stmt} (X : TopI h₀ c Pl s.heap mg ps Φ) (hloc : pw.main.scope.names.lookup (fName (sN i)) = some .local) (hnb : fName (sN i) ≠ "__builtins__")
    (hs : swapsWith (fVal (sN i)) (some (.Name (fName (sN i)) (fNPos (sN i)))) (fPos (sN i)).line (mainEnv pw c F) = pure false) (R : Value → (Heap → Prop) → Prop)
    (hval : VX w A c F E s (fVal (sN i)) R)
    (k : ∀ v h' tk Ψ, R v Ψ → TopI h₀ c Pl h' (upd mg (fName (sN i)) v) ps (fun h => Φ h ∧ Ψ h) → s.heap.objs.size ≤ h'.objs.size → EX w A c F E rest Q { s with heap := h', toks := tk }) :
    EX w A c F E (tA i :: rest) Q s := by
  refine ⟨wpAny_execs_cons ?_⟩
  have hmod : pw.main.scope.kind = .module := by kernel_rfl
  exact t_assign X hloc hnb hmod hs R hval.get fun v h' tk Ψ r x g => (k v h' tk Ψ r x g).get

/-- the value is a written str or int -/
theorem val_str {e : Expr} {x k p} (he : e = .Constant (.str x) k p) (R : Value → (Heap → Prop) → Prop) (hR : ∀ t, R (.str x t) (fun _ => True)) : VX w A c F E s e R := by
  subst he
  refine ⟨fun Q' h => ?_⟩
  exact wpAny_Constant_str (k := k) (pos := p) (h _ s.heap _ (fun _ => True) (Nat.le_refl _) (fun _ _ e => e) (fun _ _ _ x => x) trivial (hR _))
theorem val_int {e : Expr} {x k p} (he : e = .Constant (.int x) k p) (R : Value → (Heap → Prop) → Prop) (hR : ∀ t, R (.int x t) (fun _ => True)) : VX w A c F E s e R := by
  subst he
  refine ⟨fun Q' h => ?_⟩
  exact wpAny_Constant_int (k := k) (pos := p) (h _ s.heap _ (fun _ => True) (Nat.le_refl _) (fun _ _ e => e) (fun _ _ _ x => x) trivial (hR _))
theorem NewObj.low {N M : Nat} {P : Obj → Prop} {v : Value} {Ψ : Heap → Prop} (h : NewObj M P v Ψ) (l : N ≤ M) : NewObj N P v Ψ := let ⟨a, o, e1, e2, r⟩ := h; ⟨a, o, e1, Nat.le_trans l e2, r⟩
end
end Mine
end
section
open PySem PySem.W PyProof.Rows PySem.Calls
set_option Elab.async false
set_option linter.unusedVariables false
set_option maxRecDepth 100000
namespace Mine
def b1L' : List Int := [173, 847, 6150, 6155, 6156, 6157, 8203, 8204, 8205, 8288, 65279]
theorem sw6 (c F : Addr) : swapsWith (fVal (sN 6)) (some (.Name (fName (sN 6)) (fNPos (sN 6)))) (fPos (sN 6)).line (mainEnv pw c F) = pure false := by kernel_rfl
theorem v6 : ∃ p, fVal (sN 6) = .Dict (dKeys (fVal (sN 6))) (dVals (fVal (sN 6))) p := ⟨_, rfl⟩
section
variable {w : World} {A : Around} {E : Value → Shared → Prop} {s : Shared} {mg mb : Str → Option Value} {c F : Addr}
theorem val_b3 {N : Nat} (hN : N ≤ s.heap.objs.size) (hsys : sysModules < s.heap.objs.size) : VX w A c F E s (fVal (sN 6)) (NewObj N (fun o => ∃ kvs, o.IsDictOf (intKind pw w) kvs ∧ SV kvs b3D)) := by
  refine ⟨fun Q' hq => ?_⟩
  obtain ⟨p, e⟩ := v6
  rw [e]
  with_reducible exact m_dict b3_k b3_v b3_l b3_d b3_nodup b3_len b3_ne hsys fun v h₁ tk Ψ e1 e2 e3 e4 e5 => hq v h₁ tk Ψ e1 e2 e3 e4 (e5.low hN)
theorem val_b1 {N : Nat} (hN : N ≤ s.heap.objs.size) (hh : A.handled = none) (hg : s.heap.Ns mainGlobals mg) (hb : s.heap.Ns builtinsNs mb) (g1 : mg "set" = none) (g2 : mg "list" = none) (g3 : mg "range" = none)
    (b1 : mb "set" = some (.type "set")) (b2 : mb "list" = some (.type "list")) (b3 : mb "range" = some (.type "range")) :
    VX w A c F E s (fVal (sN 4)) (NewObj N (fun o => ∃ m, o.SetObjOf (intKind pw w) (fun k => (b1L' ++ rng 65024 16).any (· == k)) m ∧ m < scanBound)) := by
  refine ⟨fun Q' hq => ?_⟩
  have hmod : pw.main.scope.kind = .module := by kernel_rfl
  exact m_set_list hh hmod hg hb g3 b3 (by decide +kernel) g1 b1 (by decide +kernel) g2 b2 (by decide +kernel) (ns := b1L') (by kernel_rfl) (n := 16) (by decide +kernel) (by decide +kernel) (by decide +kernel) fun v h₁ tk Ψ e1 e2 e3 e4 e5 => hq v h₁ tk Ψ e1 e2 e3 e4 (e5.low hN)
theorem val_c7 {N : Nat} (hN : N ≤ s.heap.objs.size) (hh : A.handled = none) (hg : s.heap.Ns mainGlobals mg) (hb : s.heap.Ns builtinsNs mb) (g1 : mg "set" = none) (g3 : mg "range" = none)
    (b1 : mb "set" = some (.type "set")) (b3 : mb "range" = some (.type "range")) :
    VX w A c F E s (fVal (sN 8)) (NewObj N (fun o => ∃ m, o.SetObjOf (intKind pw w) (fun k => (rng 12272 12).any (· == k)) m ∧ m < scanBound)) := by
  refine ⟨fun Q' hq => ?_⟩
  have hmod : pw.main.scope.kind = .module := by kernel_rfl
  exact m_set_range hh hmod hg hb g3 b3 (by decide +kernel) g1 b1 (by decide +kernel) (n := 12) (by decide +kernel) (by decide +kernel) (by decide +kernel) fun v h₁ tk Ψ e1 e2 e3 e4 e5 => hq v h₁ tk Ψ e1 e2 e3 e4 (e5.low hN)
end
inductive DefX (N : Nat) (mg : Str → Option Value) (Φ : Heap → Prop) (i : Nat) : Prop
  | mk (lo hi a c' P' dV kV pm doc) : mg (fName (sN i)) = some (.ref a) → IsDef i N lo hi a c' P' dV kV pm doc Φ → DefX N mg Φ i
inductive Tab2 (N : Nat) (mg : Str → Option Value) (Φ : Heap → Prop) : Prop
  | mk (lo mid hi a c' P' dV kV pm doc b d' R' dV' kV' pm' doc') : mg (fName (sN 18)) = some (.ref a) → IsDef 18 N lo mid a c' P' dV kV pm doc Φ → mg (fName (sN 19)) = some (.ref b) → IsDef 19 N mid hi b d' R' dV' kV' pm' doc' Φ → Tab2 N mg Φ
inductive ObjF (N : Nat) (mg : Str → Option Value) (Φ : Heap → Prop) (x : Str) (P : Obj → Prop) : Prop
  | mk (a o) : mg x = some (.ref a) → N ≤ a → (∀ h, Φ h → h.get? a = some o) → P o → ObjF N mg Φ x P
/-- what the top leaves -/
structure Tops (w : World) (N : Nat) (mg₀ mg : Str → Option Value) (Φ : Heap → Prop) : Prop where
  others : ∀ x, x ∉ pw.boundNames → mg x = mg₀ x
  defs : ∀ i ∈ [1, 2, 5, 7, 9, 13, 14, 16, 17, 20, 21, 22], DefX N mg Φ i
  tabs : Tab2 N mg Φ
  b1 : ObjF N mg Φ "b1_set" fun o => ∃ m, o.SetObjOf (intKind pw w) (fun k => (b1L' ++ rng 65024 16).any (· == k)) m ∧ m < scanBound
  b3 : ObjF N mg Φ "b3_exceptions" fun o => ∃ kvs, o.IsDictOf (intKind pw w) kvs ∧ SV kvs b3D
  c7 : ObjF N mg Φ "c7_set" fun o => ∃ m, o.SetObjOf (intKind pw w) (fun k => (rng 12272 12).any (· == k)) m ∧ m < scanBound
  eof : ∃ t, mg "ENDMARKER" = some (.int 0 t)
  nt : ∃ t, mg "NT_OFFSET" = some (.int 256 t)
theorem IsDef.weak {i N lo hi a c' P' dV kV pm doc Ψ Φ} (h : IsDef i N lo hi a c' P' dV kV pm doc Ψ) (g : ∀ x, Φ x → Ψ x) : IsDef i N lo hi a c' P' dV kV pm doc Φ :=
  ⟨h.na, h.nc, h.nP, h.lo, h.hi, fun x y => h.f x (g x y), h.k, h.d.imp id fun ⟨T, vs, ne, e, n, cv, q⟩ => ⟨T, vs, ne, e, n, cv, fun x y => q x (g x y)⟩⟩
theorem TopI.bns {h₀ c Pl h mg ps Φ mb} (X : TopI h₀ c Pl h mg ps Φ) (hb : h₀.Ns builtinsNs mb) (hl : mainGlobals < Pl) : h.Ns builtinsNs mb :=
  hb.at fun o => X.keep _ o (Nat.ne_of_lt (Nat.lt_trans (by exact Nat.succ_pos _) hl)) (by decide)

theorem names_ne : ∀ i < 23, ∀ j < i, j ∉ [0, 3, 10, 15] → fName (sN j) ≠ fName (sN i) := by decide +kernel
theorem lines_ne : ∀ i < 23, ∀ j < i, (fPos (sN j)).line ≠ (fPos (sN i)).line := by decide +kernel
theorem names_in : ∀ i < 23, fName (sN i) ∈ pw.boundNames := by decide +kernel
/-- a def's fact, as the top leaves it -/
inductive DefF (N : Nat) (mg : Str → Option Value) (Φ : Heap → Prop) (sz i : Nat) : Prop
  | mk (lo hi a c' P' dV kV pm doc) : mg (fName (sN i)) = some (.ref a) → IsDef i N lo hi a c' P' dV kV pm doc Φ → hi ≤ sz → DefF N mg Φ sz i
def NewW (N : Nat) (P : Obj → Prop) (v : Value) (Φ : Heap → Prop) : Prop := ∃ a o, v = .ref a ∧ N ≤ a ∧ (∀ h, Φ h → h.get? a = some o) ∧ P o
def RV (w : World) (N j : Nat) : Value → (Heap → Prop) → Prop :=
  if j = 4 then NewW N (fun o => ∃ m, o.SetObjOf (intKind pw w) (fun k => (b1L' ++ rng 65024 16).any (· == k)) m ∧ m < scanBound)
  else if j = 6 then NewW N (fun o => ∃ kvs, o.IsDictOf (intKind pw w) kvs ∧ SV kvs b3D)
  else if j = 8 then NewW N (fun o => ∃ m, o.SetObjOf (intKind pw w) (fun k => (rng 12272 12).any (· == k)) m ∧ m < scanBound)
  else if j = 11 then fun v _ => ∃ t, v = .int 0 t
  else if j = 12 then fun v _ => ∃ t, v = .int 256 t
  else fun _ _ => True
theorem rv4 {w : World} {N : Nat} {v : Value} {Φ : Heap → Prop} (h : RV w N 4 v Φ) : NewW N (fun o => ∃ m, o.SetObjOf (intKind pw w) (fun k => (b1L' ++ rng 65024 16).any (· == k)) m ∧ m < scanBound) v Φ := by
  unfold RV at h; rwa [if_pos rfl] at h
theorem rv6 {w : World} {N : Nat} {v : Value} {Φ : Heap → Prop} (h : RV w N 6 v Φ) : NewW N (fun o => ∃ kvs, o.IsDictOf (intKind pw w) kvs ∧ SV kvs b3D) v Φ := by
  unfold RV at h; rwa [if_neg (by decide), if_pos rfl] at h
theorem rv8 {w : World} {N : Nat} {v : Value} {Φ : Heap → Prop} (h : RV w N 8 v Φ) : NewW N (fun o => ∃ m, o.SetObjOf (intKind pw w) (fun k => (rng 12272 12).any (· == k)) m ∧ m < scanBound) v Φ := by
  unfold RV at h; rwa [if_neg (by decide), if_neg (by decide), if_pos rfl] at h
theorem rv11 {w : World} {N : Nat} {v : Value} {Φ : Heap → Prop} (h : RV w N 11 v Φ) : ∃ t, v = .int 0 t := by
  unfold RV at h; rwa [if_neg (by decide), if_neg (by decide), if_neg (by decide), if_pos rfl] at h
theorem rv12 {w : World} {N : Nat} {v : Value} {Φ : Heap → Prop} (h : RV w N 12 v Φ) : ∃ t, v = .int 256 t := by
  unfold RV at h; rwa [if_neg (by decide), if_neg (by decide), if_neg (by decide), if_neg (by decide), if_pos rfl] at h
/-- the state ahead of the top's n-th statement: what each statement so far has left -/
inductive TopK (w : World) (mg₀ : Str → Option Value) (s₀ : Shared) (c Pl : Addr) (n : Nat) (D V : List Nat) : Shared → Prop
  | mk (h tk mg ps Φ l) : TopI s₀.heap c Pl h mg ps Φ → (∀ x, (∀ j < n, x ≠ fName (sN j)) → mg x = mg₀ x) → ps.toList = triples l → (∀ q ∈ l, ∃ j < n, q.1 = fPos (sN j)) →
    (∀ j ∈ D, j < n ∧ j ∉ [0, 3, 10, 15] ∧ DefF s₀.heap.objs.size mg Φ h.objs.size j) → (∀ j ∈ V, j < n ∧ j ∉ [0, 3, 10, 15] ∧ ∃ v, mg (fName (sN j)) = some v ∧ ∀ Φ', (∀ h, Φ' h → Φ h) → RV w s₀.heap.objs.size j v Φ') → (19 ∈ D → Tab2 s₀.heap.objs.size mg Φ) →
    TopK w mg₀ s₀ c Pl n D V { s₀ with heap := h, toks := tk }

section
variable {w : World} {A : Around} {E : Value → Shared → Prop} {s s₀ : Shared} {c Pl F : Addr} {mg₀ mb : Str → Option Value} {Q : Flow → Shared → Prop} {D V : List Nat}

theorem upd_ne {mg : Str → Option Value} {i : Nat} (hi : i < 23) {j : Nat} (hj : j < i) (hr : j ∉ [0, 3, 10, 15]) (v : Value) : upd mg (fName (sN i)) v (fName (sN j)) = mg (fName (sN j)) := if_neg (names_ne i hi j hj hr)
theorem DefF.next {N mg Φ sz i j v} {Ψ : Heap → Prop} {sz' : Nat} (h : DefF N mg Φ sz j) (hi : i < 23) (hj : j < i) (hr : j ∉ [0, 3, 10, 15]) (l : sz ≤ sz') : DefF N (upd mg (fName (sN i)) v) (fun h => Φ h ∧ Ψ h) sz' j :=
  let ⟨lo, hi', a, c', P', dV, kV, pm, doc, e, d, g⟩ := h; ⟨lo, hi', a, c', P', dV, kV, pm, doc, (upd_ne hi hj hr v).trans e, d.weak fun _ x => x.1, Nat.le_trans g l⟩
theorem Tab2.next {N mg Φ i v} {Ψ : Heap → Prop} (h : Tab2 N mg Φ) (hi : i < 23) (hj : 19 < i) : Tab2 N (upd mg (fName (sN i)) v) (fun h => Φ h ∧ Ψ h) :=
  let ⟨lo, mid, hi', a, c', P', dV, kV, pm, doc, b, d', R', dV', kV', pm', doc', e, d, e2, d2⟩ := h
  ⟨lo, mid, hi', a, c', P', dV, kV, pm, doc, b, d', R', dV', kV', pm', doc', (upd_ne hi (Nat.lt_of_succ_lt hj) (by decide) v).trans e, d.weak fun _ x => x.1, (upd_ne hi hj (by decide) v).trans e2, d2.weak fun _ x => x.1⟩

/-- what a def at the top must show of itself -/
structure FOk (i : Nat) : Prop where
  lt : i < 23
  nr : i ∉ [0, 3, 10, 15]
  cst : ∀ e ∈ (fArgs (sN i)).defaults, e.isPlainConst = true
  kd : (fArgs (sN i)).kw_defaults = [] ∨ ∃ k p, (fArgs (sN i)).kw_defaults = [some (.Constant .none k p)]
  ann : ∀ c F, annTrees (fArgs (sN i)) none (mainEnv pw c F) = []
  free : ∀ x ∈ (fScope (sN i)).names, x.2 ≠ .free
  loc : pw.main.scope.names.lookup (fName (sN i)) = some .local
  qual : qualnameIn { scope := pw.main.scope, locals := mainGlobals, globals := mainGlobals, cells := [] } (fName (sN i)) (fName (sN i)) = fName (sN i)
  nb : fName (sN i) ≠ "__builtins__"
theorem top_F {i : Nat} {rest : List Stmt} (K : TopK w mg₀ s₀ c Pl i D V s) (o : FOk i) (h19 : i = 19 → 18 ∈ D)
    (k : ∀ s', TopK w mg₀ s₀ c Pl (i + 1) (i :: D) V s' → EX w A c F E rest Q s') : EX w A c F E (tF i :: rest) Q s := by
  obtain ⟨h, tk, mg, ps, Φ, l, X, hn, hl, hp, hD, hV, hT⟩ := K
  refine step_F i X o.cst (fun s Q h => o.kd.elim (fun e => kd_nil e s Q h) (fun ⟨_, _, e⟩ => kd_none e s Q h)) (o.ann c F) o.free o.loc o.qual o.nb
    (by rw [hl]; exact codeAmong_triples _ _ fun q hq e => by obtain ⟨j, hj, e2⟩ := hp q hq; rw [e2] at e; exact lines_ne i o.lt j hj e.1)
    fun a c' P' dV kV pm doc Ψ h' tk d X' => k _ ?_
  have hsz : h.objs.size ≤ h'.objs.size := Nat.le_trans d.lo (Nat.le_of_lt d.hi)
  have dw := d.weak (Φ := fun h => Φ h ∧ Ψ h) fun _ x => x.2
  have self : upd mg (fName (sN i)) (.ref a) (fName (sN i)) = some (.ref a) := if_pos rfl
  refine ⟨h', tk, _, _, _, l ++ [(fPos (sN i), c')], X', fun x hx => (if_neg (hx i (Nat.lt_succ_self i))).trans (hn x fun j hj => hx j (Nat.lt_succ_of_lt hj)), ?_, fun q hq => ?_, fun j hj => ?_, fun j hj => ?_, fun h => ?_⟩
  · rw [triples_append, Array.toList_append, hl]
  · rcases List.mem_append.mp hq with h | h
    · obtain ⟨j, hj, e⟩ := hp q h; exact ⟨j, Nat.lt_succ_of_lt hj, e⟩
    · rw [List.mem_singleton.mp h]; exact ⟨i, Nat.lt_succ_self i, rfl⟩
  · rcases List.mem_cons.mp hj with rfl | hj
    · exact ⟨Nat.lt_succ_self _, o.nr, _, _, a, c', P', dV, kV, pm, doc, self, dw, Nat.le_refl _⟩
    · obtain ⟨h1, hr, h2⟩ := hD j hj; exact ⟨Nat.lt_succ_of_lt h1, hr, h2.next o.lt h1 hr hsz⟩
  · obtain ⟨h1, hr, v, h2, h3⟩ := hV j hj; exact ⟨Nat.lt_succ_of_lt h1, hr, v, (upd_ne o.lt h1 hr _).trans h2, fun Φ' g => h3 Φ' fun h x => (g h x).1⟩
  · rcases List.mem_cons.mp h with rfl | h
    · obtain ⟨h1, hr, lo, hi, a', c2, P2, dV2, kV2, pm2, doc2, e, d2, g⟩ := hD 18 (h19 rfl)
      exact ⟨lo, hi, _, a', c2, P2, dV2, kV2, pm2, doc2, a, c', P', dV, kV, pm, doc, (upd_ne o.lt h1 hr _).trans e, d2.weak fun _ x => x.1, self, { dw with lo := Nat.le_trans g d.lo }⟩
    · exact (hT h).next o.lt (hD 19 h).1
theorem top_A {i : Nat} {rest : List Stmt} (K : TopK w mg₀ s₀ c Pl i D V s) (hi : i < 23) (hloc : pw.main.scope.names.lookup (fName (sN i)) = some .local) (hnb : fName (sN i) ≠ "__builtins__")
    (hs : ∀ c F, swapsWith (fVal (sN i)) (some (.Name (fName (sN i)) (fNPos (sN i)))) (fPos (sN i)).line (mainEnv pw c F) = pure false) (R : Value → (Heap → Prop) → Prop)
    (hval : ∀ mg ps Φ, TopI s₀.heap c Pl s.heap mg ps Φ → (∀ x, (∀ j < i, x ≠ fName (sN j)) → mg x = mg₀ x) → VX w A c F E s (fVal (sN i)) R)
    (hR : ∀ v Ψ Φ', R v Ψ → (∀ h, Φ' h → Ψ h) → RV w s₀.heap.objs.size i v Φ')
    {V' : List Nat} (hV' : ∀ j ∈ V', j ∈ V ∨ (j = i ∧ i ∉ [0, 3, 10, 15]))
    (k : ∀ s', TopK w mg₀ s₀ c Pl (i + 1) D V' s' → EX w A c F E rest Q s') : EX w A c F E (tA i :: rest) Q s := by
  obtain ⟨h, tk, mg, ps, Φ, l, X, hn, hl, hp, hD, hV, hT⟩ := K
  refine step_A i X hloc hnb (hs c F) R (hval mg ps Φ X hn) fun v h' tk Ψ r X' g => k _ ?_
  refine ⟨h', tk, _, _, _, l, X', fun x hx => (if_neg (hx i (Nat.lt_succ_self i))).trans (hn x fun j hj => hx j (Nat.lt_succ_of_lt hj)), hl, fun q hq => ?_, fun j hj => ?_, fun j hj => ?_, fun h => ?_⟩
  · obtain ⟨j, hj, e⟩ := hp q hq; exact ⟨j, Nat.lt_succ_of_lt hj, e⟩
  · obtain ⟨h1, hr, h2⟩ := hD j hj; exact ⟨Nat.lt_succ_of_lt h1, hr, h2.next hi h1 hr g⟩
  · rcases hV' j hj with hj | ⟨rfl, hr⟩
    rotate_left
    · exact ⟨Nat.lt_succ_self _, hr, v, if_pos rfl, fun Φ' g => hR v Ψ Φ' r fun h x => (g h x).2⟩
    · obtain ⟨h1, hr, v, h2, h3⟩ := hV j hj; exact ⟨Nat.lt_succ_of_lt h1, hr, v, (upd_ne hi h1 hr _).trans h2, fun Φ' g => h3 Φ' fun h x => (g h x).1⟩
  · exact (hT h).next hi (hD 19 h).1
theorem NewW.of {N P v Ψ} {Φ' : Heap → Prop} (r : NewObj N P v Ψ) (g : ∀ h, Φ' h → Ψ h) : NewW N P v Φ' := by
  obtain ⟨a, o, e, n, p, rfl⟩ := r; exact ⟨a, o, e, n, g, p⟩
end
theorem fok1 : FOk 1 := ⟨by decide +kernel, by decide +kernel, by decide +kernel, .inr ⟨_, _, rfl⟩, fun _ _ => by kernel_rfl, by decide +kernel, by decide +kernel, by kernel_rfl, by decide +kernel⟩
theorem fok2 : FOk 2 := ⟨by decide +kernel, by decide +kernel, by decide +kernel, .inr ⟨_, _, rfl⟩, fun _ _ => by kernel_rfl, by decide +kernel, by decide +kernel, by kernel_rfl, by decide +kernel⟩
theorem fok5 : FOk 5 := ⟨by decide +kernel, by decide +kernel, by decide +kernel, .inl (by decide +kernel), fun _ _ => by kernel_rfl, by decide +kernel, by decide +kernel, by kernel_rfl, by decide +kernel⟩
theorem fok7 : FOk 7 := ⟨by decide +kernel, by decide +kernel, by decide +kernel, .inl (by decide +kernel), fun _ _ => by kernel_rfl, by decide +kernel, by decide +kernel, by kernel_rfl, by decide +kernel⟩
theorem fok9 : FOk 9 := ⟨by decide +kernel, by decide +kernel, by decide +kernel, .inl (by decide +kernel), fun _ _ => by kernel_rfl, by decide +kernel, by decide +kernel, by kernel_rfl, by decide +kernel⟩
theorem fok13 : FOk 13 := ⟨by decide +kernel, by decide +kernel, by decide +kernel, .inl (by decide +kernel), fun _ _ => by kernel_rfl, by decide +kernel, by decide +kernel, by kernel_rfl, by decide +kernel⟩
theorem fok14 : FOk 14 := ⟨by decide +kernel, by decide +kernel, by decide +kernel, .inl (by decide +kernel), fun _ _ => by kernel_rfl, by decide +kernel, by decide +kernel, by kernel_rfl, by decide +kernel⟩
theorem fok16 : FOk 16 := ⟨by decide +kernel, by decide +kernel, by decide +kernel, .inl (by decide +kernel), fun _ _ => by kernel_rfl, by decide +kernel, by decide +kernel, by kernel_rfl, by decide +kernel⟩
theorem fok17 : FOk 17 := ⟨by decide +kernel, by decide +kernel, by decide +kernel, .inl (by decide +kernel), fun _ _ => by kernel_rfl, by decide +kernel, by decide +kernel, by kernel_rfl, by decide +kernel⟩
theorem fok18 : FOk 18 := ⟨by decide +kernel, by decide +kernel, by decide +kernel, .inl (by decide +kernel), fun _ _ => by kernel_rfl, by decide +kernel, by decide +kernel, by kernel_rfl, by decide +kernel⟩
theorem fok19 : FOk 19 := ⟨by decide +kernel, by decide +kernel, by decide +kernel, .inl (by decide +kernel), fun _ _ => by kernel_rfl, by decide +kernel, by decide +kernel, by kernel_rfl, by decide +kernel⟩
theorem fok20 : FOk 20 := ⟨by decide +kernel, by decide +kernel, by decide +kernel, .inl (by decide +kernel), fun _ _ => by kernel_rfl, by decide +kernel, by decide +kernel, by kernel_rfl, by decide +kernel⟩
theorem fok21 : FOk 21 := ⟨by decide +kernel, by decide +kernel, by decide +kernel, .inl (by decide +kernel), fun _ _ => by kernel_rfl, by decide +kernel, by decide +kernel, by kernel_rfl, by decide +kernel⟩
theorem fok22 : FOk 22 := ⟨by decide +kernel, by decide +kernel, by decide +kernel, .inl (by decide +kernel), fun _ _ => by kernel_rfl, by decide +kernel, by decide +kernel, by kernel_rfl, by decide +kernel⟩
theorem not_mine : ∀ x ∈ [("set" : Str), "list", "range"], (∀ j < 23, x ≠ fName (sN j)) ∧ x ∉ bootMainNames := by decide +kernel
theorem locs : ∀ i < 23, pw.main.scope.names.lookup (fName (sN i)) = some .local ∧ fName (sN i) ≠ "__builtins__" := by decide +kernel
theorem tops_in : ∀ i ∈ [1, 2, 5, 7, 9, 13, 14, 16, 17, 20, 21, 22], i ∈ [22, 21, 20, 19, 18, 17, 16, 14, 13, 9, 7, 5, 2, 1] := by decide +kernel
theorem TopK.tops {w : World} {mg : Str → Option Value} {s s' : Shared} {c Pl : Addr} (K : TopK w mg s c Pl 23 [22, 21, 20, 19, 18, 17, 16, 14, 13, 9, 7, 5, 2, 1] [12, 11, 8, 6, 4] s') :
    ∃ h' mg' ps' tk Φ, TopI s.heap c Pl h' mg' ps' Φ ∧ Tops w s.heap.objs.size mg mg' Φ ∧ s' = { s with heap := h', toks := tk } := by
  obtain ⟨h', tk, mg', ps, Φ, l, X, hn, _, _, hD, hV, hT⟩ := K
  have hT' := hT (by decide +kernel)
  have v4 := hV 4 (by decide +kernel)
  obtain ⟨_, _, _, e4, r4⟩ := v4
  have w4 := rv4 (r4 Φ fun _ x => x)
  obtain ⟨a4, o4, rfl, q4⟩ := w4
  have v6 := hV 6 (by decide +kernel)
  obtain ⟨_, _, _, e6, r6⟩ := v6
  have w6 := rv6 (r6 Φ fun _ x => x)
  obtain ⟨a6, o6, rfl, q6⟩ := w6
  have v8 := hV 8 (by decide +kernel)
  obtain ⟨_, _, _, e8, r8⟩ := v8
  have w8 := rv8 (r8 Φ fun _ x => x)
  obtain ⟨a8, o8, rfl, q8⟩ := w8
  have v11 := hV 11 (by decide +kernel)
  obtain ⟨_, _, _, e11, r11⟩ := v11
  have w11 := rv11 (r11 Φ fun _ x => x)
  obtain ⟨t11, rfl⟩ := w11
  have v12 := hV 12 (by decide +kernel)
  obtain ⟨_, _, _, e12, r12⟩ := v12
  have w12 := rv12 (r12 Φ fun _ x => x)
  obtain ⟨t12, rfl⟩ := w12
  refine ⟨_, _, _, _, _, X, ⟨fun x hx => hn x fun j hj e => hx (by rw [e]; exact names_in j hj), fun i hi => ?_, hT', ⟨a4, o4, e4, q4.1, q4.2.1, q4.2.2⟩, ⟨a6, o6, e6, q6.1, q6.2.1, q6.2.2⟩, ⟨a8, o8, e8, q8.1, q8.2.1, q8.2.2⟩, ⟨t11, e11⟩, ⟨t12, e12⟩⟩, rfl⟩
  · have di := hD i (tops_in i hi)
    obtain ⟨_, _, lo, hi', a, c', P', dV, kV, pm, doc, e, d, _⟩ := di
    exact ⟨lo, hi', a, c', P', dV, kV, pm, doc, e, d⟩
theorem top_walk {w : World} {A : Around} {s : Shared} {mg mb : Str → Option Value} {c Pl F : Addr} {Q : Flow → Shared → Prop} {E : Value → Shared → Prop} (hh : A.handled = none) (hB : BootLeft s.heap mb mg c Pl)
    (k : ∀ h' mg' ps' tk Φ, TopI s.heap c Pl h' mg' ps' Φ → Tops w s.heap.objs.size mg mg' Φ → Q .next { s with heap := h', toks := tk }) :
    EX w A c F E pw.main.body Q s := by
  have bset : mb "set" = some (.type "set") := (hB.builtins _ (by decide +kernel)).trans (by kernel_rfl)
  have blist : mb "list" = some (.type "list") := (hB.builtins _ (by decide +kernel)).trans (by kernel_rfl)
  have brange : mb "range" = some (.type "range") := (hB.builtins _ (by decide +kernel)).trans (by kernel_rfl)
  have hsys : sysModules < s.heap.objs.size := Nat.lt_of_le_of_lt (by exact Nat.succ_pos _) (Nat.lt_trans hB.low.2 hB.code.lt.2)
  have gl : ∀ {i : Nat} {mg' : Str → Option Value}, i < 23 → (∀ x, (∀ j < i, x ≠ fName (sN j)) → mg' x = mg x) → ∀ x ∈ [("set" : Str), "list", "range"], mg' x = none := fun hi h x hx =>
    (h x fun j hj => (not_mine x hx).1 j (Nat.lt_trans hj hi)).trans (hB.others x (not_mine x hx).2)
  rw [body_eq]
  have K0 : TopK w mg s c Pl 0 [] [] s := ⟨s.heap, s.toks, mg, #[], fun _ => True, [], ⟨hB.main, fun _ _ _ _ e => e, hB.code.lt.2, hB.g.lt, Nat.le_refl _, trivial, fun _ _ _ _ => trivial⟩, fun _ _ => rfl, rfl, (fun _ h => nomatch h), (fun _ h => nomatch h), (fun _ h => nomatch h), (fun h => nomatch h)⟩
  refine top_A K0 (by decide +kernel) (locs 0 (by decide +kernel)).1 (locs 0 (by decide +kernel)).2 (fun _ _ => by kernel_rfl) (fun _ _ => True) (fun _ _ _ _ _ => val_str rfl _ fun _ => trivial) (fun _ _ _ _ _ => trivial) (V' := []) (by decide) fun s0 K1 => ?_
  refine top_F K1 fok1 (fun h => nomatch h) fun s1 K2 => ?_
  refine top_F K2 fok2 (fun h => nomatch h) fun s2 K3 => ?_
  refine top_A K3 (by decide +kernel) (locs 3 (by decide +kernel)).1 (locs 3 (by decide +kernel)).2 (fun _ _ => by kernel_rfl) (fun _ _ => True) (fun _ _ _ _ _ => val_str rfl _ fun _ => trivial) (fun _ _ _ _ _ => trivial) (V' := []) (by decide) fun s3 K4 => ?_
  refine top_A K4 (by decide +kernel) (locs 4 (by decide +kernel)).1 (locs 4 (by decide +kernel)).2 (fun _ _ => by kernel_rfl) _ (fun mg ps Φ X hn => val_b1 X.grows hh X.main.g (X.bns hB.b hB.low.2) (gl (by decide) hn _ (by decide +kernel)) (gl (by decide) hn _ (by decide +kernel)) (gl (by decide) hn _ (by decide +kernel)) bset blist brange) (fun _ _ _ r g => NewW.of r g) (V' := [4]) (by decide) fun s4 K5 => ?_
  refine top_F K5 fok5 (fun h => nomatch h) fun s5 K6 => ?_
  refine top_A K6 (by decide +kernel) (locs 6 (by decide +kernel)).1 (locs 6 (by decide +kernel)).2 sw6 _ (fun mg ps Φ X hn => val_b3 X.grows (Nat.lt_of_lt_of_le hsys X.grows)) (fun _ _ _ r g => NewW.of r g) (V' := [6, 4]) (by decide) fun s6 K7 => ?_
  refine top_F K7 fok7 (fun h => nomatch h) fun s7 K8 => ?_
  refine top_A K8 (by decide +kernel) (locs 8 (by decide +kernel)).1 (locs 8 (by decide +kernel)).2 (fun _ _ => by kernel_rfl) _ (fun mg ps Φ X hn => val_c7 X.grows hh X.main.g (X.bns hB.b hB.low.2) (gl (by decide) hn _ (by decide +kernel)) (gl (by decide) hn _ (by decide +kernel)) bset brange) (fun _ _ _ r g => NewW.of r g) (V' := [8, 6, 4]) (by decide) fun s8 K9 => ?_
  refine top_F K9 fok9 (fun h => nomatch h) fun s9 K10 => ?_
  refine top_A K10 (by decide +kernel) (locs 10 (by decide +kernel)).1 (locs 10 (by decide +kernel)).2 (fun _ _ => by kernel_rfl) (fun _ _ => True) (fun _ _ _ _ _ => val_str rfl _ fun _ => trivial) (fun _ _ _ _ _ => trivial) (V' := [8, 6, 4]) (by decide) fun s10 K11 => ?_
  refine top_A K11 (by decide +kernel) (locs 11 (by decide +kernel)).1 (locs 11 (by decide +kernel)).2 (fun _ _ => by kernel_rfl) (fun v _ => ∃ t, v = .int 0 t) (fun _ _ _ _ _ => val_int rfl _ fun t => ⟨t, rfl⟩) (fun _ _ _ r _ => r) (V' := [11, 8, 6, 4]) (by decide) fun s11 K12 => ?_
  refine top_A K12 (by decide +kernel) (locs 12 (by decide +kernel)).1 (locs 12 (by decide +kernel)).2 (fun _ _ => by kernel_rfl) (fun v _ => ∃ t, v = .int 256 t) (fun _ _ _ _ _ => val_int rfl _ fun t => ⟨t, rfl⟩) (fun _ _ _ r _ => r) (V' := [12, 11, 8, 6, 4]) (by decide) fun s12 K13 => ?_
  refine top_F K13 fok13 (fun h => nomatch h) fun s13 K14 => ?_
  refine top_F K14 fok14 (fun h => nomatch h) fun s14 K15 => ?_
  refine top_A K15 (by decide +kernel) (locs 15 (by decide +kernel)).1 (locs 15 (by decide +kernel)).2 (fun _ _ => by kernel_rfl) (fun _ _ => True) (fun _ _ _ _ _ => val_str rfl _ fun _ => trivial) (fun _ _ _ _ _ => trivial) (V' := [12, 11, 8, 6, 4]) (by decide) fun s15 K16 => ?_
  refine top_F K16 fok16 (fun h => nomatch h) fun s16 K17 => ?_
  refine top_F K17 fok17 (fun h => nomatch h) fun s17 K18 => ?_
  refine top_F K18 fok18 (fun h => nomatch h) fun s18 K19 => ?_
  refine top_F K19 fok19 (fun _ => .head _) fun s19 K20 => ?_
  refine top_F K20 fok20 (fun h => nomatch h) fun s20 K21 => ?_
  refine top_F K21 fok21 (fun h => nomatch h) fun s21 K22 => ?_
  refine top_F K22 fok22 (fun h => nomatch h) fun s22 K23 => ?_
  refine ⟨wpAny_execs_nil ?_⟩
  have t := K23.tops
  obtain ⟨h', mg', ps', tk, Φ, X, T, rfl⟩ := t
  exact k _ _ _ _ _ X T
end Mine
end
section
open PySem PySem.W PyProof.Rows PySem.Calls
set_option Elab.async false
set_option linter.unusedVariables false
set_option maxRecDepth 100000
namespace Mine
theorem step_halt {p : Program} {w : World} {s s' : Shared} {t : Thread} {f : Flow} (hc : t.calm = true) (h : step (denote table) p w s t = .halt (.done f) s') : through t = true := by
  have hn : runN (denote table) p w 1 s t = .halted (.done f) s' := by simp only [runN, h]
  obtain ⟨s1, h1, _⟩ := runN_calm_runNI (denote table) p w hn fun k s₁ t₁ hk => by
    cases k with
    | zero => cases hk; exact hc
    | succ k => simp only [runN, h] at hk; cases hk
  have h2 : (model p w).step s t = .halt (outcomeOf (.ok f)) s1 := by
    have h3 : (model p w).runN 1 s t = .halted (.done f) s1 := h1
    rw [runN_succ] at h3
    cases hs : (model p w).step s t with
    | go s2 t2 => rw [hs] at h3; cases h3
    | halt o s2 => rw [hs] at h3; cases h3; rfl
  obtain ⟨cur, code, pos, stack⟩ := t
  obtain ⟨rfl, rfl, _, _⟩ := step_halt_result h2
  rfl
theorem run_back {p : Program} {w : World} {f : Flow} {s' : Shared} : ∀ (n : Nat) (s : Shared) (t : Thread), (∀ k s₁ t₁, runN (denote table) p w k s t = .running s₁ t₁ → t₁.calm = true) → runN (denote table) p w n s t = .halted (.done f) s' → ∃ m t₁, runN (denote table) p w m s t = .running s' t₁ ∧ through t₁ = true
  | 0, s, t, _, h => nomatch h
  | n + 1, s, t, hc, h => by
    simp only [runN] at h
    cases hs : step (denote table) p w s t with
    | go s1 t1 =>
      rw [hs] at h
      obtain ⟨m, t₁, a, b⟩ := run_back n s1 t1 (fun k s₁ t₁ hk => hc (k + 1) s₁ t₁ (by simp only [runN, hs]; exact hk)) h
      exact ⟨m + 1, t₁, by simp only [runN, hs]; exact a, b⟩
    | halt o s1 =>
      rw [hs] at h
      cases h
      obtain rfl := step_halt_same _ _ _ _ _ _ _ hs
      exact ⟨0, t, rfl, step_halt (hc 0 _ t rfl) hs⟩
theorem run_more {p : Program} {w : World} : ∀ (m k : Nat) (s : Shared) (t : Thread) (s1 : Shared) (t1 : Thread), runN (denote table) p w m s t = .running s1 t1 → runN (denote table) p w (m + k) s t = runN (denote table) p w k s1 t1
  | 0, k, s, t, s1, t1, h => by cases h; rw [Nat.zero_add]
  | m + 1, k, s, t, s1, t1, h => by
    rw [show m + 1 + k = m + k + 1 from ar511]
    simp only [runN] at h ⊢
    cases hs : step (denote table) p w s t with
    | go s2 t2 => rw [hs] at h; exact run_more m k s2 t2 s1 t1 h
    | halt o s2 => rw [hs] at h; cases h

theorem top_runs {p : Program} {w : World} {tree : Sem Fin} {s : Shared} {P : Shared → Prop} (hz : s.asleep)
    (h : wpAny (model p w) callerA tree (fun fin s' => ∃ f, fin = .done f ∧ (P s' ∧ s'.gens = #[])) (fun _ _ => False) s) :
    ∃ n s₁ t₁, schedN (denote table) p w n (.single s ⟨tree, .builtin "claim.caller" {}, default, []⟩) = .running (.single s₁ t₁) ∧ through t₁ = true ∧ s₁.heap.life = s.heap.life ∧ P s₁ ∧ s₁.gens = #[] := by
  have hw := wp_of_wpAny_done (R := fun (r : Result) s' => ((∃ f, r = .ok f) ∧ P s' ∧ s'.gens = #[]) ∧ leftWithCleanup s'.gens = false) caller_in
    (wpAny_mono h (fun fin s' ⟨f, e, a, b⟩ => ⟨f, e, ⟨⟨f, rfl⟩, a, b⟩, by rw [b]; decide +kernel⟩) fun _ _ e => e.elim) default
  obtain ⟨n, r, s', hn, ⟨f, rfl⟩, hP, hg⟩ := (wp_iff_halts (M := model p w) tree (fun r s' => (∃ f, r = .ok f) ∧ P s' ∧ s'.gens = #[]) default s).mp hw
  obtain ⟨n', s'', hrun, hf, hcalm⟩ := (halts_real_iff (M := model p w) (r := .ok f) s'.forget).mpr ⟨n, s', hn, rfl⟩
  obtain rfl := Shared.eq_of_forget_eq hf hg
  obtain ⟨m, t₁, hm, ht⟩ := run_back n' _ _ hcalm hrun
  refine ⟨m, s'', t₁, ?_, ht, runN_life_running hm, hP, hg⟩
  have e := schedN_prefix (den := denote table) (prog := p) (w := w) m s ⟨tree, .builtin "claim.caller" {}, default, []⟩ hz (fun k s1 t1 hk hr => ⟨hcalm k s1 t1 hr, fun hs => ?_⟩)
  · rw [e]
    show Run.lift (runN (denote table) p w m s _) = _
    have hm' : runN (denote table) p w m s ⟨tree, .builtin "claim.caller" {}, default, []⟩ = .running s'' t₁ := hm
    rw [hm']; rfl
  · obtain ⟨j, rfl⟩ : ∃ j, m = k + (j + 1) := ⟨m - k - 1, (ar512 hk)⟩
    have h1 := run_more k (j + 1) _ _ s1 t1 hr
    have hm' : runN (denote table) p w (k + (j + 1)) s ⟨tree, .builtin "claim.caller" {}, default, []⟩ = .running s'' t₁ := hm
    rw [h1] at hm'
    simp only [runN, hs] at hm'
    cases hm'
end Mine
end
section
open PySem PySem.W PyProof.Rows PySem.Calls
set_option Elab.async false
set_option linter.unusedVariables false
set_option maxRecDepth 100000
namespace Mine
theorem boot_again {h h' : Heap} {mb mg : Str → Option Value} {c Pl c' Pl' : Addr} (hB : BootLeft h mb mg c Pl) (hk : ∀ b o, h.get? b = some o → h'.get? b = some o) (hc : h'.IsCode c' Pl' #[]) (h1 : h.objs.size ≤ c') (h2 : h.objs.size ≤ Pl') : BootLeft h' mb mg c' Pl' where
  b := hB.b.keeps hk
  builtins := hB.builtins
  noThreading := hB.noThreading.at fun o => hk _ o
  noSys := hB.noSys.at fun o => hk _ o
  statics := hB.statics.keeps hk
  g := hB.g.keeps hk
  name := hB.name
  others := hB.others
  code := hc
  low := ⟨Nat.lt_of_lt_of_le hB.g.lt h1, Nat.lt_of_lt_of_le hB.g.lt h2⟩
  bmod := by
    obtain ⟨bm, o, a, b, c, d, e, r⟩ := hB.bmod
    exact ⟨bm, o, a, b, c, Nat.ne_of_lt (Nat.lt_of_lt_of_le (Heap.lt_size e) h2), hk _ _ e, r⟩
  mods := by
    obtain ⟨bm, m2, v, ⟨a1, a2, a3⟩, ⟨b1, b2, b3⟩⟩ := hB.mods
    obtain ⟨mm, hn, _⟩ := hB.noThreading
    exact ⟨bm, m2, v.stays hn fun o => hk _ o, ⟨a1, Nat.ne_of_lt (Nat.lt_of_lt_of_le (Heap.lt_size a3) h2), hk _ _ a3⟩, ⟨b1, Nat.ne_of_lt (Nat.lt_of_lt_of_le (Heap.lt_size b3) h2), hk _ _ b3⟩⟩
  noPylong := let ⟨mm, a, b⟩ := hB.noPylong; ⟨mm, a.keeps hk, b⟩

inductive TopE (w : World) (mg : Str → Option Value) (s s' : Shared) : Prop
  | mk (h₀ c Pl mg' ps Φ) : (∀ b o, s.heap.get? b = some o → h₀.get? b = some o) → s.heap.objs.size ≤ Pl → TopI h₀ c Pl s'.heap mg' ps Φ → Tops w h₀.objs.size mg mg' Φ → TopE w mg s s'
structure TopP (w : World) (mg : Str → Option Value) (s s' : Shared) : Prop where
  os : s'.os = s.os
  ex : TopE w mg s s'
theorem behind_eq : behindTheImports pw = pw.main.body := by kernel_rfl
theorem top_tree {w : World} {s : Shared} {mb mg : Str → Option Value} {c0 Pl0 : Addr} (hB : BootLeft s.heap mb mg c0 Pl0) (hg : s.gens = #[]) :
    wpAny (model pw w) callerA (topStub pw).cur (fun fin s' => ∃ f, fin = .done f ∧ (TopP w mg s s' ∧ s'.gens = #[])) (fun _ _ => False) s := by
  show wpAny _ _ (moduleCode pw.main >>= _) _ _ _
  refine wpAny_bind (wpAny_moduleCode fun c Pl h1 tk1 hk1 hc hPl hcode => ?_)
  unfold newBodyFrame
  refine wpAny_bind (wpAny_bind (wpAny_nsGet (hB.g.keeps hk1) (wpAny_alloc ?_)))
  refine wpAny_bind ?_
  rw [behind_eq]
  have hk2 : ∀ (o' : Obj) b o, s.heap.get? b = some o → (h1.push o').get? b = some o := fun o' b o e => Heap.get?_push_of_some _ (hk1 b o e)
  refine wpAny_run (codeAny_body (by kernel_rfl) (by kernel_rfl) ?_)
  refine EX.get (c := c) (F := h1.objs.size) (top_walk rfl (boot_again hB (hk2 _) (hcode.push _) hc hPl) fun h' mg' ps' tk Φ X T => ?_)
  exact wpAny_pure ⟨_, rfl, ⟨rfl, _, c, Pl, mg', ps', Φ, hk2 _, hPl, X, T⟩, hg⟩
end Mine
end
section
open PySem PySem.W PyProof.Rows PySem.Calls
set_option Elab.async false
set_option linter.unusedVariables false
set_option maxRecDepth 100000
namespace Mine
theorem ns_glob {h : Heap} {m : Str → Option Value} (hn : h.Ns mainGlobals m) (x : Str) : globalOf h x = m x := by
  obtain ⟨o, es, ep, ho, hd, hs, hf⟩ := hn
  show (match h.get? mainGlobals with | some o => _ | none => none) = _
  rw [ho]; dsimp only; rw [hd]
  exact hf x
theorem ns_stat {h : Heap} {m : Str → Option Value} (hn : h.Ns cStatics m) (x : Str) : staticOf h x = m x := by
  obtain ⟨o, es, ep, ho, hd, hs, hf⟩ := hn
  unfold staticOf
  rw [ho]; dsimp only; rw [hd]
  exact hf x
theorem ns_blt {h : Heap} {m : Str → Option Value} (hn : h.Ns builtinsNs m) (x : Str) : builtinOf h x = m x := by
  obtain ⟨o, es, ep, ho, hd, hs, hf⟩ := hn
  unfold builtinOf
  rw [ho]; dsimp only; rw [hd]
  exact hf x

theorem opening_body : (opening pw).main.body = [] := by kernel_rfl
theorem fence_id (s : Shared) : fenceModules? pw s = some s := by
  have h : importedModules pw.main.body = [] := by kernel_rfl
  unfold fenceModules?
  rw [h]
  have h2 : pw.main.body.any namesNumpy = false := by kernel_rfl
  rw [h2]; rfl

def Booted (s : Shared) : Prop := ∃ mb mg c Pl, BootLeft s.heap mb mg c Pl
theorem opened (w : World) : (∃ s, AfterImport (opening pw) w s) ∧ ∀ s, AfterImport (opening pw) w s → (Booted s ∧ s.gens = #[]) := by
  refine AfterImport.of_body (P := fun s => Booted s ∧ s.gens = #[]) (out := #[]) (fun hp tk mb mg c Pl F hB => ?_) (by kernel_rfl)
  rw [opening_body]
  refine codeAny_body rfl rfl (wpAny_execs_nil ?_)
  exact ⟨⟨_, rfl⟩, .of hB (fun _ _ _ _ e => e) hB.g, ⟨⟨mb, mg, c, Pl, hB⟩, rfl⟩, rfl⟩

theorem topran {w : World} {s₀ s₁ : Shared} {mb mg : Str → Option Value} {c0 Pl0 : Addr} (hB : BootLeft s₀.heap mb mg c0 Pl0) (hP : TopP w mg s₀ s₁) (hg : s₁.gens = #[]) (hl : s₁.heap.life = s₀.heap.life)
    {n : Nat} {t : Thread} (hr : schedN (denote table) pw w n (.single s₀ (topStub pw)) = .running (.single s₁ t)) (ht : through t = true) : TopRan pw w s₀ s₁ := by
  obtain ⟨h₀, c, Pl, mg', ps, Φ, hk, hPl, X, T⟩ := hP.ex
  have keep : ∀ b o, s₀.heap.get? b = some o → b ≠ mainGlobals → s₁.heap.get? b = some o := fun b o e hne =>
    X.keep b o (Nat.ne_of_lt (Nat.lt_of_lt_of_le (Heap.lt_size e) hPl)) hne (hk b o e)
  have hstat : s₁.heap.Ns cStatics (fun _ => none) := hB.statics.at fun o e => keep _ o e (by decide)
  have hblt : s₁.heap.Ns builtinsNs mb := hB.b.at fun o e => keep _ o e (by decide)
  have himp : importedModules pw.main.body = [] := by kernel_rfl
  refine ⟨⟨n, t, hr, ht⟩, hl, Shared.rest_eq hP.os, fun b o e hn => keep b o e fun q => hn (.inl q), ?_, ?_, ?_, ?_, ?_, ?_, ?_, ?_⟩
  · intro key v hv; rw [ns_stat hstat] at hv; cases hv
  · intro key; left; rw [ns_stat hstat, ns_stat hB.statics]
  · obtain ⟨o, es, ep, ho, hd, hs, _⟩ := X.main.g
    exact ⟨o, es, ep, ho, hd, hs⟩
  · intro name hn; rw [ns_blt hblt]; exact hB.builtins name hn
  · obtain ⟨bm, o, a, _, _, _, b, c, d, _⟩ := X.main.bmod
    exact ⟨bm, o, (ns_glob X.main.g _).trans a, b, c, d⟩
  · rw [hg]; intro g h; simp at h
  · intro x v hv
    rw [ns_glob X.main.g] at hv
    by_cases hx : x ∈ pw.boundNames
    · exact .inr hx
    · rw [T.others x hx] at hv
      left
      by_cases hx2 : x ∈ bootMainNames
      · exact hx2
      · rw [hB.others x hx2] at hv; cases hv
  · intro x hx
    rw [ns_glob X.main.g, ns_glob hB.g]
    refine T.others x ?_
    have : ∀ x ∈ laidNames, x ∉ pw.boundNames := by decide +kernel
    exact this x hx

/-- the head -/
theorem head (w : World) : (∃ s, AfterRun (opening pw) w s) ∧ ∀ s, AfterRun (opening pw) w s → ∃ s₀, fenceModules? pw s = some s₀ ∧ s₀.gens = #[] ∧ ∃ s₁, TopRan pw w s₀ s₁ ∧ s₁.asleep ∧ s₁.gens = #[] ∧
    ∃ mb mg c Pl, BootLeft s₀.heap mb mg c Pl ∧ TopP w mg s₀ s₁ := by
  refine ⟨(opened w).1, fun s hs => ⟨s, fence_id s, ((opened w).2 s hs).2, ?_⟩⟩
  obtain ⟨⟨mb, mg, c, Pl, hB⟩, hg⟩ := (opened w).2 s hs
  have hz : s.asleep := AfterImport.life hs
  obtain ⟨n, s₁, t₁, hr, ht, hl, hP, hg1⟩ := top_runs (P := fun s' => TopP w mg s s') hz (top_tree hB hg)
  exact ⟨s₁, topran hB hP hg1 hl hr ht, Shared.asleep_of_life hl hz, hg1, mb, mg, c, Pl, hB, hP⟩
end Mine
end
section
open PySem PySem.W PyProof.Rows PySem.Calls
set_option Elab.async false
set_option linter.unusedVariables false
set_option maxRecDepth 100000
namespace Mine
abbrev rw0 : OpenLaw := PySem.Challenge.rw_rl0096_01
theorem pre_ints {args : List WData} (h : rw0.row.toRowW.claim.pre args = true) : ∃ ns : List Int, args = [.list (ns.map WData.int)] ∧ ns.length ≤ 63 := by
  obtain ⟨h1, h2⟩ := pre_splitW h
  obtain ⟨d, r, rfl, h3, h4⟩ := hasAllW_cons (e := .list .int) (es := []) h1
  obtain rfl := hasAllW_nil h4
  obtain ⟨xs, rfl, h3b⟩ := hasW_list h3
  obtain ⟨ns, rfl⟩ := PySem.W.items_int h3b
  refine ⟨ns, rfl, ?_⟩
  have h5 : WTm.holds [] (.and (.not (.lt (.lit (.int 63)) (.len (.arg 0)))) (.lit (.bool true))) { args := [.list (ns.map WData.int)] } = true := h2
  have e : less? (.int 63) (.int (ns.length : Int)) = some (decide ((63 : Int) < ns.length)) := rfl
  by_cases hc : ns.length ≤ 63
  · exact hc
  · have h6 : decide ((63 : Int) < ns.length) = true := decide_eq_true (ar459 hc)
    simp [WTm.holds, WTm.value, e, h6] at h5
theorem lay_ints {R : WRecords} {cl P ord} : ∀ (ns : List Int) (s : Shared), ∃ vs tk, layAllW R cl P ord (ns.map WData.int) s = some (vs, { s with toks := tk }) ∧ ∀ (B : Base) Z φ, RelVs B Z φ vs (ns.map AV.int)
  | [], s => ⟨[], s.toks, rfl, fun _ _ _ => .nil⟩
  | n :: ns, s => by
    obtain ⟨vs, tk, h1, h2⟩ := lay_ints (R := R) (cl := cl) (P := P) (ord := ord) ns { s with toks := s.toks + 1 }
    refine ⟨.int n s.toks :: vs, tk, ?_, fun B Z φ => .cons (.int ..) (h2 B Z φ)⟩
    show layAllW R cl P ord (WData.int n :: ns.map WData.int) s = _
    simp only [layAllW, layW]
    rw [h1]
theorem lay_args {R : WRecords} {cl P ord} (ns : List Int) (s : Shared) : ∃ vs tk, layAllW R cl P ord [.list (ns.map WData.int)] s = some ([.ref s.heap.objs.size], { s with heap := s.heap.push { cls := .type "list", data := .seq vs.toArray }, toks := tk }) ∧ ∀ (B : Base) Z φ, RelVs B Z φ vs (ns.map AV.int) := by
  obtain ⟨vs, tk, h1, h2⟩ := lay_ints (R := R) (cl := cl) (P := P) (ord := ord) ns s
  refine ⟨vs, tk, ?_, h2⟩
  simp only [layAllW, layW, h1]
theorem post_true (args : List WData) : rw0.row.toRowW.claim.post args (.bool true) args = true := by
  show (WShape.has [] (.bool true) .bool && WTm.holds [] (.eq .res (.lit (.bool true))) { args := args, res := some (.bool true), after := args }) = true
  have e : same (.bool true) (.bool true) = true := by decide +kernel
  simp [WShape.has, WShape.arms, WTm.holds, WTm.value, e]
end Mine
end
section
open PySem PySem.W PyProof.Rows PySem.SeqAt
set_option Elab.async false
namespace Mine
local macro_rules | `(tactic| none_booked) => `(tactic| (with_unfolding_all (first | decide +kernel | (dsimp only; decide +kernel))))
local macro_rules | `(tactic| one_sign) => `(tactic| first | exact get_hd | (refine get_tl (nm (by decide)) ?_; one_sign))
local macro_rules | `(tactic| leaf_len) => `(tactic| first | exact SetTo.nil | exact SetTo.hd | (apply SetTo.tl; exact nm (by decide); leaf_len))
local macro_rules | `(tactic| top_name) => `(tactic| with_reducible first
  | refine s_cons ?_
  | refine s_if ?_
  | refine s_return ?_
  | refine s_assign ?_ (fun _ => by with_unfolding_all rfl)
  | refine b_compare ?_ (by with_unfolding_all rfl)
  | refine r_int ?_ | refine r_str ?_ | refine r_none ?_
  | refine r_local (by none_booked) (by one_sign) ?_ (by none_booked)
  | refine r_binop ?_ | refine r_unop ?_ | refine r_compare ?_ (by with_unfolding_all rfl) | refine r_ifexp ?_
  | refine o_add ?_ | refine o_sub ?_ | refine o_neg ?_
  | refine c_lt ?_ | refine c_le ?_ | refine c_gt ?_ | refine c_ge ?_ | refine c_eq ?_ | refine c_isNone_self ?_
  | refine t_bool ?_ | refine t_int ?_
  | refine w_store (by none_booked) (by leaf_len) ?_
  | refine r_upto ?_ | refine r_from ?_
  | refine r_sub ?_ (fun _ _ => by with_unfolding_all rfl)
  | refine l_cons ?_ (fun _ => by with_unfolding_all rfl) | refine l_nil ?_
  | rw [if_pos rfl]
  | refine s_nil ?_
  | refine r_cell (by none_booked) (by one_sign) ?_ (by none_booked)
  | refine w_storeC (by none_booked) (by leaf_len) ?_
  | refine b_not ?_
  | refine b_and ?_ | refine b_or ?_)
section
open PySem PySem.W PyProof.Rows PySem.SeqAt
set_option Elab.async false
set_option linter.unusedVariables false
set_option linter.unnecessarySimpa false
set_option maxRecDepth 100000
variable {B : Base} {F : Frm} {σ : St} {Q : AV → St → Prop} {Qn : St → Prop} {Qr : AV → St → Prop}
def rank (ks : List Int) (x : Int) : Nat := (ks.takeWhile (· < x)).length
theorem Rank.eq {ks : List Int} {x : Int} {r : Nat} (h : Rank ks x r) : r = rank ks x := by
  induction ks generalizing r with
  | nil => have := h.le; simp at this; subst this; rfl
  | cons k ks ih =>
    unfold rank
    rw [List.takeWhile_cons]
    cases r with
    | zero =>
      have := h.ge 0 k (Nat.le_refl _) rfl
      have hn : ¬ k < x := ar266 this
      simp [hn]
    | succ r =>
      have h1 := h.lt 0 k (ar267) rfl
      simp only [h1, decide_true, if_true, List.length_cons]
      rw [ih (r := r) ⟨by have := h.le; simpa using this, fun i a hi e => h.lt (i + 1) a (ar268 hi) (by simpa using e), fun i a hi e => h.ge (i + 1) a (ar269 hi) (by simpa using e)⟩]
      rfl

/-! ### insort_left -/
inductive insSpec (B : Base) (ht : Nat) (args : List AV) (kws : List (Str × AV)) (led : List MO) (Q : AV → List MO → Prop) : Prop
  | mk : ∀ i x lam l ks kx f, args = [.ref i, x] → kws = [(Str.ofString "key", lam)] → led[i]? = some (.list l) → l.map f = ks.map some → ks.length ≤ 1000 → ks.Pairwise (· ≤ ·) → IsF lam → SpecOK B ht lam (lamSpec f) → f x = some kx → Q .none (led.set i (.list (l.take (rank ks kx) ++ x :: l.drop (rank ks kx)))) → insSpec B ht args kws led Q

theorem insort_walk {c q ht i x lam l ks kx f led} (hlam : IsF lam) (hl : led[i]? = some (.list l)) (hk : l.map f = ks.map some) (hz : ks.length ≤ 1000) (hs : ks.Pairwise (· ≤ ·)) (hok : SpecOK B ht lam (lamSpec f)) (hx : f x = some kx)
    (hbis : SpecOK B (ht + 1) (.fn "bisect_left") (bisSpec B ht)) (hg : GlobIs B "bisect_left" (.fn "bisect_left"))
    (h : ∀ loc, Qn ⟨loc, led.set i (.list (l.take (rank ks kx) ++ x :: l.drop (rank ks kx)))⟩) :
    WSs B ⟨fScope (sN 1), some (c, q), ht + 1⟩ (fBody (sN 1)) Qn Qr ⟨[("a", .ref i), ("x", x), ("lo", .int 0), ("hi", .none), ("key", lam)], led⟩ := by
  have hll : l.length = ks.length := by have := congrArg List.length hk; simpa using this
  have nf : lam ≠ .none ∧ ∀ id, lam ≠ .bi id := by cases hlam <;> exact ⟨by simp, by simp⟩
  refine s_cons ?_
  repeat top_name
  refine c_isNone_other nf.1 nf.2 ?_
  repeat top_name
  rw [if_neg (by simp)]
  repeat top_name
  refine r_callk ?_ (fun _ => rfl)
  refine r_global (by none_booked) hg ?_ (by none_booked)
  refine ⟨.fn _, ?_⟩
  repeat top_name
  refine r_callf ?_ (fun _ => rfl)
  repeat top_name
  refine ⟨hlam, ?_⟩
  repeat top_name
  refine ⟨lamSpec f, ht, hok, Nat.le_succ _, rfl, x, kx, rfl, hx, ?_⟩
  repeat top_name
  refine ⟨bisSpec B ht, ht + 1, hbis, Nat.le_refl _, .ref i, kx, lam, l, ks, f, .inr rfl, rfl, .md hl, hk, hz, hs, hlam, hok, fun r hr => ?_⟩
  have hrle := hr.le
  rw [hr.eq] at hrle ⊢
  repeat top_name
  refine s_expr ?_ rfl (fun _ => rfl)
  refine r_meth PySem.F.plainAttrs_list PySem.F.slot_list_insert PySem.F.type_list_insert (fun _ => rfl) (fun _ => rfl) rfl ?_
  repeat top_name
  refine m_insert (l₀ := l) hl (fun _ => rfl) ?_
  repeat top_name
  refine ⟨l, _, rfl, ar0, hl, by simp; exact ar270 hll hrle, (ar15 hz hll), ?_⟩
  repeat top_name
  simpa using h _
theorem insort_ok {c ht} (D : Def B "insort_left" 1 c (Dflt B)) (hbis : SpecOK B (ht + 1) (.fn "bisect_left") (bisSpec B ht)) (hg : GlobIs B "bisect_left" (.fn "bisect_left")) : SpecOK B (ht + 2) (.fn "insort_left") (insSpec B ht) := by
  refine spec_def D (by decide +kernel) (by decide +kernel) (by decide +kernel) (by decide +kernel) ?_
  intro Z φ E s vs ks args kws led Q name dV kV doc pm an ct hP I rv rk ⟨i, x, lam, l, kys, kx, f, ha, hkw, hl, hm, hz, hs, hF, hok, hx, hq⟩
  subst hkw ha
  replace rk := rk.cons_i; obtain ⟨kv, _, rfl, rk, rk'⟩ := rk
  obtain rfl := rk'.nil_i
  replace rv := rv.cons_i; obtain ⟨v1, _, rfl, r1, rv⟩ := rv
  replace rv := rv.cons_i; obtain ⟨v2, _, rfl, r2, rv⟩ := rv
  obtain rfl := rv.nil_i
  obtain ⟨t, hb⟩ := binds_i (v1 := v1) (v2 := v2) (k := kv) (name := name) (doc := doc) (pm := pm) (an := an) (c := c) (ct := ct) I hP
  refine ⟨_, [("a", .ref i), ("x", x), ("lo", .int 0), ("hi", .none), ("key", lam)], hb, .cons r1 (.cons r2 (.cons (.int ..) (.cons .none (.cons rk .nil)))), nd_names ["a", "x", "lo", "hi", "key"] (by decide +kernel) rfl,
    loc_names ["a", "x", "lo", "hi", "key"] (by decide +kernel) rfl, insort_walk hF hl hm hz hs hok hx hbis hg fun loc => ?_⟩
  exact ⟨_, .refl _ _, by simp, hq⟩
end
section
open PySem PySem.W PyProof.Rows PySem.SeqAt
set_option Elab.async false
set_option linter.unusedVariables false
set_option linter.unnecessarySimpa false
set_option maxRecDepth 100000
variable {B : Base} {F : Frm} {σ : St} {Q : AV → St → Prop} {Qn : St → Prop} {Qr : AV → St → Prop}
/-- a list display that is never written to -/
theorem r_listz {es pos} (h : WL B F es pos (fun l σ1 => l.length ≤ 1000000 ∧ Q (.lst l) σ1) σ) : WE B F (.List es pos) Q σ := fun A env Z φ fr s hA hE R => by
  refine List_ (wpAny_mono (h A env Z φ fr s hA hE R) (fun vs s1 ⟨Z1, φ1, σ1, l, x1, rl, R1, hl, h1⟩ => ?_) fun _ _ e => e)
  refine wpAny_newObj_type ?_ (by show vs.toArray.size ≤ sizeLine; rw [List.size_toArray, rl.length, sizeLine_eq]; exact ar1 hl)
  obtain ⟨R2, x2⟩ := R1.allocZ (tk := s1.toks) (fun b o e => Heap.get?_push_of_some { cls := .type "list", data := .seq vs.toArray } e) (Nat.le_refl _) (Heap.get?_push_size _ rfl)
  exact ⟨_, _, _, .lst l, x1.trans x2, .lst (Fz.put_self ..) (by simpa using rl.mono x2), R2, h1⟩

/-! ### _law_go -/
def goL (p : List (Int × Int)) (peak held : Int) : List (Int × Int) :=
  let k := rank (p.map fun q => -q.1) (-peak)
  let m := rank (p.map (·.2)) held
  if m < k then p.take m ++ [((p.getD m (0, 0)).1, held)] else p.take k ++ [(peak, held)]
structure PathOk (p : List (Int × Int)) : Prop where
  h : (p.map fun q => -q.1).Pairwise (· ≤ ·)
  v : (p.map (·.2)).Pairwise (· ≤ ·)
inductive goSpec (args : List AV) (kws : List (Str × AV)) (led : List MO) (Q : AV → List MO → Prop) : Prop
  | mk : kws = [] → ∀ a p peak held, args = [a, .int peak, .int held] → LstOf led a (ap p) → p.length ≤ 1000 → PathOk p → Q (.lst (ap (goL p peak held))) led → goSpec args kws led Q

def fNegHill : AV → Option Int
  | .tup [.int h, .int _] => some (-h)
  | _ => none
def fValley : AV → Option Int
  | .tup [.int _, .int v] => some v
  | _ => none
theorem map_negHill (p : List (Int × Int)) : (ap p).map fNegHill = (p.map fun q => -q.1).map some := by simp [ap, fNegHill]
theorem map_valley (p : List (Int × Int)) : (ap p).map fValley = (p.map (·.2)).map some := by simp [ap, fValley]
theorem rank_le (ks : List Int) (x : Int) : rank ks x ≤ ks.length := by unfold rank; exact (List.takeWhile_sublist _).length_le

theorem go_walk {c P ht a p peak held led} (htab : (⟨c, P, (Str.ofString "_law_go" ++ ".<locals>.") ++ "<lambda>"⟩ : Tab) ∈ B.tabs) (hl : LstOf led a (ap p)) (hz : p.length ≤ 1000) (hp : PathOk p)
    (hbis : SpecOK B (ht + 2) (.fn "bisect_left") (bisSpec B (ht + 1))) (hg : GlobIs B "bisect_left" (.fn "bisect_left"))
    (h : ∀ loc, Qr (.lst (ap (goL p peak held))) ⟨loc, led⟩) :
    WSs B ⟨fScope (sN 18), some (c, Str.ofString "_law_go" ++ ".<locals>."), ht + 2⟩ (fBody (sN 18)) Qn Qr ⟨[("path", a), ("peak", .int peak), ("held", .int held)], led⟩ := by
  refine s_cons ?_
  repeat top_name
  refine r_callk ?_ (fun _ => rfl)
  refine r_global (by none_booked) hg ?_ (by none_booked)
  refine ⟨.fn _, ?_⟩
  repeat top_name
  refine r_lambda rfl htab (fun _ => rfl) (fun _ => rfl) ?_
  refine ⟨bisSpec B (ht + 1), ht + 2, hbis, Nat.le_refl _, a, -peak, _, ap p, _, fNegHill, .inl rfl, rfl, hl, map_negHill p, by simpa using hz, hp.h, .lam .., ?_, fun r hr => ?_⟩
  · refine spec_lam (x := Str.ofString "one") (fun fd v h1 h2 => ?_) (by decide +kernel) (by decide +kernel) (by simp only []) (by simp only []) (by simp only []) ?_
    · obtain ⟨⟩ := fd
      dsimp only at h1 h2
      subst h1 h2
      rfl
    · rintro args kws led' Q' ⟨rfl, v, i, rfl, hf, hq⟩
      refine ⟨rfl, v, rfl, ?_⟩
      obtain ⟨h', v', rfl⟩ : ∃ h' v', v = .tup [.int h', .int v'] := by
        unfold fNegHill at hf
        split at hf
        · exact ⟨_, _, rfl⟩
        · cases hf
      cases hf
      refine r_unop ?_
      repeat top_name
      refine ix_tup (x := .int h') (by constructor) (by decide +kernel) rfl ?_
      repeat top_name
      exact ⟨rfl, hq⟩
  rw [hr.eq]
  repeat top_name
  refine r_callk ?_ (fun _ => rfl)
  refine r_global (by none_booked) hg ?_ (by none_booked)
  refine ⟨.fn _, ?_⟩
  repeat top_name
  refine r_lambda rfl htab (fun _ => rfl) (fun _ => rfl) ?_
  refine ⟨bisSpec B (ht + 1), ht + 2, hbis, Nat.le_refl _, a, held, _, ap p, _, fValley, .inl rfl, rfl, hl, map_valley p, by simpa using hz, hp.v, .lam .., ?_, fun r' hr' => ?_⟩
  · refine spec_lam (x := Str.ofString "one") (fun fd v h1 h2 => ?_) (by decide +kernel) (by decide +kernel) (by decide +kernel) (by decide +kernel) (by decide +kernel) ?_
    · obtain ⟨⟩ := fd
      dsimp only at h1 h2
      subst h1 h2
      rfl
    · rintro args kws led' Q' ⟨rfl, v, i, rfl, hf, hq⟩
      refine ⟨rfl, v, rfl, ?_⟩
      obtain ⟨h', v', rfl⟩ : ∃ h' v', v = .tup [.int h', .int v'] := by
        unfold fValley at hf
        split at hf
        · exact ⟨_, _, rfl⟩
        · cases hf
      cases hf
      refine r_sub ?_ (fun _ _ => rfl)
      repeat top_name
      refine ix_tup (by constructor) (by decide +kernel) rfl ?_
      exact ⟨rfl, hq⟩
  rw [hr'.eq]
  have l1 : rank (p.map fun q => -q.1) (-peak) ≤ p.length := by simpa using rank_le (p.map fun q => -q.1) (-peak)
  have l2 : rank (p.map (·.2)) held ≤ p.length := by simpa using rank_le (p.map (·.2)) held
  have hap : (ap p).length = p.length := by simp [ap]
  unfold goL at h
  generalize rank (p.map fun q => -q.1) (-peak) = k at *
  generalize rank (p.map (·.2)) held = m at *
  dsimp only at h
  repeat top_name
  by_cases hc : m < k
  · simp only [show ((m : Nat) : Int) < (k : Nat) from ar285 hc, decide_true, if_true]
    rw [if_pos hc] at h
    repeat top_name
    refine ⟨ap p, _, hl, rfl, ar0, (ar15 hz hap), ?_⟩
    refine r_listz ?_
    repeat top_name
    refine r_tuple ?_
    repeat top_name
    refine ix_list (l := ap p) (x := .tup [.int (p[m]'(ar3 l1 hc)).1, .int (p[m]'(ar3 l1 hc)).2]) hl (ar0) (ar286 hz l2) (by simp [ap, show m < p.length from ar3 l1 hc]) ?_
    repeat top_name
    refine ix_tup (x := .int (p[m]'(ar3 l1 hc)).1) (by constructor) (by decide +kernel) rfl ?_
    repeat top_name
    refine ⟨by simp, ?_⟩
    repeat top_name
    refine ⟨by exact Nat.succ_pos _, ?_⟩
    refine o_addl (.fz _) (.fz _) (by simp; exact ar82 hz hap) ?_
    have e : (ap p).take ((m : Nat) : Int).toNat ++ [AV.tup [.int (p[m]'(ar3 l1 hc)).1, .int held]] = ap (p.take m ++ [((p.getD m (0, 0)).1, held)]) := by
      simp [ap, List.getD_eq_getElem?_getD, show m < p.length from ar3 l1 hc]
    rw [e]
    exact h _
  · simp only [show ¬ ((m : Nat) : Int) < (k : Nat) from ar287 hc, decide_false]
    rw [if_neg hc] at h
    rw [if_neg (by simp)]
    repeat top_name
    refine ⟨ap p, _, hl, rfl, ar0, (ar15 hz hap), ?_⟩
    refine r_listz ?_
    repeat top_name
    refine r_tuple ?_
    repeat top_name
    refine ⟨by simp, ?_⟩
    repeat top_name
    refine ⟨by exact Nat.succ_pos _, ?_⟩
    refine o_addl (.fz _) (.fz _) (by simp; exact ar82 hz hap) ?_
    have e : (ap p).take ((k : Nat) : Int).toNat ++ [AV.tup [.int peak, .int held]] = ap (p.take k ++ [(peak, held)]) := by simp [ap]
    rw [e]
    exact h _
def NoD (dV kV : Value) : Prop := dV = .none ∧ kV = .none
theorem go_ok {c P ht} (D : Def B "_law_go" 18 c NoD) (htab : (⟨c, P, (Str.ofString "_law_go" ++ ".<locals>.") ++ "<lambda>"⟩ : Tab) ∈ B.tabs)
    (hbis : SpecOK B (ht + 2) (.fn "bisect_left") (bisSpec B (ht + 1))) (hg : GlobIs B "bisect_left" (.fn "bisect_left")) : SpecOK B (ht + 3) (.fn "_law_go") goSpec := by
  refine spec_def D (by decide +kernel) (by decide +kernel) (by decide +kernel) (by decide +kernel) ?_
  intro Z φ E s vs ks args kws led Q name dV kV doc pm an ct hP I rv rk ⟨hkw, a, p, peak, held, ha, hl, hz, hp, hq⟩
  obtain ⟨rfl, rfl⟩ := hP
  subst hkw ha
  obtain rfl := rk.nil_i
  replace rv := rv.cons_i; obtain ⟨v1, _, rfl, r1, rv⟩ := rv
  replace rv := rv.cons_i; obtain ⟨v2, _, rfl, r2, rv⟩ := rv
  replace rv := rv.cons_i; obtain ⟨v3, _, rfl, r3, rv⟩ := rv
  obtain rfl := rv.nil_i
  refine ⟨[("path", v1), ("peak", v2), ("held", v3)], [("path", a), ("peak", .int peak), ("held", .int held)], .of_eq rfl, .cons r1 (.cons r2 (.cons r3 .nil)), nd_names ["path", "peak", "held"] (by decide +kernel) rfl,
    loc_names ["path", "peak", "held"] (by decide +kernel) rfl, go_walk htab hl hz hp hbis hg fun loc => ?_⟩
  exact ⟨_, led, .refl _ _, Nat.le_refl _, hq⟩
end
section
open PySem PySem.W PyProof.Rows PySem.SeqAt
set_option Elab.async false
set_option linter.unusedVariables false
set_option linter.unnecessarySimpa false
set_option maxRecDepth 100000
variable {B : Base} {F : Frm} {σ : St} {Q : AV → St → Prop} {Qn : St → Prop} {Qr : AV → St → Prop}
theorem LstOf.app {led : List MO} {a l} (h : LstOf led a l) (m : List MO) : LstOf (led ++ m) a l := by
  cases h with
  | fz => exact .fz _
  | md h => exact .md (by rw [List.getElem?_append_left (List.getElem?_eq_some_iff.mp h).1]; exact h)
theorem get_last {led : List MO} {x : MO} : (led ++ [x])[led.length]? = some x := by simp
theorem set_last {led : List MO} {x y : MO} : (led ++ [x]).set led.length y = led ++ [y] := by simp

abbrev Fall := Int × Int × Int
def aF (f : Fall) : AV := .tup [.int f.1, .int f.2.1, .int f.2.2]
def fKey (f : Fall) : Int := f.2.2 - f.2.1
def insF (fs : List Fall) (x : Fall) : List Fall := fs.take (rank (fs.map fKey) (fKey x)) ++ x :: fs.drop (rank (fs.map fKey) (fKey x))
def partF (pl : List (List (Int × Int))) (fs : List Fall) (part : Int) : List Fall := (pl.getD part.toNat []).foldl (fun fs q => insF fs (part, q.1, q.2)) fs
def fallsOf (pl : List (List (Int × Int))) (ps : List Int) : List Fall := ps.foldl (partF pl) []
def dgetI : List (Int × Int) → Int → Option Int
  | [], _ => none
  | (k, v) :: r, x => if k = x then some v else dgetI r x
def dsetI : List (Int × Int) → Int → Int → List (Int × Int)
  | [], x, v => [(x, v)]
  | (k, u) :: r, x, v => if k = x then (k, v) :: r else (k, u) :: dsetI r x v
def dI (l : List (Int × Int)) : List (Int × AV) := l.map fun p => (p.1, .int p.2)
theorem dget_dI (l : List (Int × Int)) (k : Int) : dget (dI l) k = (dgetI l k).map .int := by
  induction l with
  | nil => rfl
  | cons p r ih =>
    obtain ⟨a, b⟩ := p
    show dget ((a, .int b) :: dI r) k = _
    unfold dget dgetI
    split <;> simp [ih]
theorem dset_dI (l : List (Int × Int)) (k v : Int) : dset (dI l) k (.int v) = dI (dsetI l k v) := by
  induction l with
  | nil => rfl
  | cons p r ih =>
    obtain ⟨a, b⟩ := p
    show dset ((a, .int b) :: dI r) k (.int v) = _
    unfold dset dsetI
    split
    · rfl
    · rw [ih]; rfl
theorem dsetI_len (l : List (Int × Int)) (k v : Int) : (dsetI l k v).length ≤ l.length + 1 := by
  induction l with
  | nil => exact Nat.succ_pos _
  | cons p r ih =>
    obtain ⟨a, b⟩ := p
    unfold dsetI
    split
    · simp
    · simp; exact ih
abbrev PSt := List (Int × Int) × Int × List (Int × Int)
def pathStep (s : PSt) (f : Fall) : PSt :=
  (goL s.1 (s.2.1 - (dgetI s.2.2 f.1).getD 0 + f.2.1) (s.2.1 - (dgetI s.2.2 f.1).getD 0 + f.2.2), s.2.1 - (dgetI s.2.2 f.1).getD 0 + f.2.2, dsetI s.2.2 f.1 f.2.2)
def pathRun (fs : List Fall) : PSt := fs.foldl pathStep ([], 0, [])
def pathL (pl : List (List (Int × Int))) (ps : List Int) (weight : Int) : List (Int × Int) := goL (pathRun (fallsOf pl ps)).1 ((pathRun (fallsOf pl ps)).2.1 + weight) weight

theorem rank_lt {ks : List Int} {x : Int} {i : Nat} {k : Int} (hi : i < rank ks x) (e : ks[i]? = some k) : k < x := by
  unfold rank at hi
  induction ks generalizing i with
  | nil => simp at e
  | cons a r ih =>
    rw [List.takeWhile_cons] at hi
    by_cases h : a < x
    · simp only [h, decide_true, if_true, List.length_cons] at hi
      cases i with
      | zero => simp at e; exact ar135 h e
      | succ i => exact ih (i := i) (ar136 hi) (by simpa using e)
    · simp [h] at hi
theorem rank_ge {ks : List Int} (hs : ks.Pairwise (· ≤ ·)) {x : Int} {i : Nat} {k : Int} (hi : rank ks x ≤ i) (e : ks[i]? = some k) : x ≤ k := by
  unfold rank at hi
  induction ks generalizing i with
  | nil => simp at e
  | cons a r ih =>
    rw [List.takeWhile_cons] at hi
    rw [List.pairwise_cons] at hs
    by_cases h : a < x
    · simp only [h, decide_true, if_true, List.length_cons] at hi
      cases i with
      | zero => exact ar137 hi
      | succ i => exact ih (i := i) hs.2 (ar138 hi) (by simpa using e)
    · cases i with
      | zero => simp at e; exact ar52 h e
      | succ i =>
        have := hs.1 k (List.mem_of_getElem? (by simpa using e : r[i]? = some k))
        exact ar139 h this
theorem take_rank {ks : List Int} {x : Int} : ∀ k ∈ ks.take (rank ks x), k < x := fun k hk => by
  obtain ⟨i, hi, rfl⟩ := List.getElem_of_mem hk
  rw [List.length_take] at hi
  rw [List.getElem_take]
  exact rank_lt (i := i) (ar140 hi) (List.getElem?_eq_getElem _)
theorem drop_rank {ks : List Int} (hs : ks.Pairwise (· ≤ ·)) {x : Int} : ∀ k ∈ ks.drop (rank ks x), x ≤ k := fun k hk => by
  obtain ⟨i, hi, rfl⟩ := List.getElem_of_mem hk
  rw [List.length_drop] at hi
  rw [List.getElem_drop]
  exact rank_ge hs (i := rank ks x + i) (ar141) (List.getElem?_eq_getElem _)
theorem insF_sorted {fs : List Fall} (h : (fs.map fKey).Pairwise (· ≤ ·)) (x : Fall) : ((insF fs x).map fKey).Pairwise (· ≤ ·) := by
  unfold insF
  rw [List.map_append, List.map_cons, List.map_take, List.map_drop, List.pairwise_append, List.pairwise_cons]
  refine ⟨h.sublist (List.take_sublist _ _), ⟨fun k hk => drop_rank h k hk, h.sublist (List.drop_sublist _ _)⟩, fun a ha b hb => ?_⟩
  have h1 := take_rank a ha
  rcases List.mem_cons.mp hb with rfl | hb
  · exact ar22 h1
  · have := drop_rank h b hb; exact ar142 h1 this
theorem insF_len (fs : List Fall) (x : Fall) : (insF fs x).length = fs.length + 1 := by
  unfold insF
  have := rank_le (fs.map fKey) (fKey x)
  simp at this
  simp; exact ar143
theorem goL_ok {p : List (Int × Int)} (h : PathOk p) (a b : Int) : PathOk (goL p a b) := by
  unfold goL
  dsimp only
  have hm : ∀ k, k ≤ rank (p.map (·.2)) b → ∀ y ∈ (p.take k).map (·.2), y < b := fun k hk y hy => by
    rw [List.map_take] at hy
    obtain ⟨i, hi, rfl⟩ := List.getElem_of_mem hy
    rw [List.length_take] at hi
    rw [List.getElem_take]
    exact rank_lt (i := i) (ar144 hk hi) (List.getElem?_eq_getElem _)
  split
  · rename_i hc
    have hlt : rank (p.map (·.2)) b < p.length := by have := rank_le (p.map fun q => -q.1) (-a); simp at this; exact ar145 hc this
    generalize rank (p.map (·.2)) b = m at *
    refine ⟨?_, ?_⟩
    · have e : (p.take m ++ [((p.getD m (0, 0)).1, b)]).map (fun q => -q.1) = (p.map fun q => -q.1).take (m + 1) := by
        rw [List.take_add_one, List.map_append, List.map_take]; simp [hlt, List.getD_eq_getElem?_getD]
      rw [e]; exact h.h.sublist (List.take_sublist _ _)
    · rw [List.map_append, List.pairwise_append]
      refine ⟨by rw [List.map_take]; exact h.v.sublist (List.take_sublist _ _), by simp, fun x hx y hy => ?_⟩
      simp at hy; subst hy
      exact Int.le_of_lt (hm m (Nat.le_refl _) x hx)
  · rename_i hc
    refine ⟨?_, ?_⟩
    · rw [List.map_append, List.pairwise_append]
      refine ⟨by rw [List.map_take]; exact h.h.sublist (List.take_sublist _ _), by simp, fun x hx y hy => ?_⟩
      simp at hy; subst hy
      rw [List.map_take] at hx
      exact Int.le_of_lt (take_rank x hx)
    · rw [List.map_append, List.pairwise_append]
      refine ⟨by rw [List.map_take]; exact h.v.sublist (List.take_sublist _ _), by simp, fun x hx y hy => ?_⟩
      simp at hy; subst hy
      exact Int.le_of_lt (hm _ (ar146 hc) x hx)
theorem goL_len (p : List (Int × Int)) (a b : Int) : (goL p a b).length ≤ p.length + 1 := by
  unfold goL; dsimp only; split <;> simp <;> exact ar23
theorem pathStep_ok {s : PSt} (h : PathOk s.1) (f : Fall) : PathOk (pathStep s f).1 := goL_ok h _ _
end
section
open PySem PySem.W PyProof.Rows PySem.SeqAt
set_option Elab.async false
set_option linter.unusedVariables false
set_option linter.unnecessarySimpa false
set_option maxRecDepth 100000
variable {B : Base} {F : Frm} {σ : St} {Q : AV → St → Prop} {Qn : St → Prop} {Qr : AV → St → Prop}
def NrL (led : List MO) : Prop := ∀ (i : Nat) mo, led[i]? = some mo → nrM mo = true
theorem rw_cut {led ext : List MO} (h : NrL led) {r : AV} (hr : nr r = true) : RW r (led ++ ext) r led := by
  refine .cut (led1 := led) (by simp) (fun i mo e => .inl ⟨by rw [List.getElem?_append_left (List.getElem?_eq_some_iff.mp e).1]; exact e, h i mo e⟩) ?_ (.refl _ _)
  cases r with
  | ref i => simp [nr] at hr
  | _ => exact hr
def fFall : AV → Option Int
  | .tup [.int _, .int h, .int v] => some (v - h)
  | _ => none
theorem map_fall (fs : List Fall) : (fs.map aF).map fFall = (fs.map fKey).map some := by simp [aF, fFall, fKey]
def aPaths (pl : List (List (Int × Int))) : List AV := pl.map fun p => .lst (ap p)
inductive pathSpec (args : List AV) (kws : List (Str × AV)) (led : List MO) (Q : AV → List MO → Prop) : Prop
  | mk : kws = [] → ∀ a b pl ps weight, args = [a, b, .int weight] → LstOf led a (aPaths pl) → LstOf led b (ai ps) → (∀ x ∈ ps, 0 ≤ x ∧ x.toNat < pl.length) → (∀ p ∈ pl, p.length ≤ 100) → ps.length ≤ 3 → pl.length ≤ 1000 → NrL led → Q (.lst (ap (pathL pl ps weight))) led → pathSpec args kws led Q
theorem partF_ok {pl : List (List (Int × Int))} {part : Int} : ∀ (l : List (Int × Int)) (fs : List Fall), (fs.map fKey).Pairwise (· ≤ ·) →
    ((l.foldl (fun fs q => insF fs (part, q.1, q.2)) fs).map fKey).Pairwise (· ≤ ·) ∧ (l.foldl (fun fs q => insF fs (part, q.1, q.2)) fs).length = fs.length + l.length
  | [], fs, h => ⟨h, by simp⟩
  | q :: l, fs, h => by
    have := partF_ok (pl := pl) (part := part) l (insF fs (part, q.1, q.2)) (insF_sorted h _)
    refine ⟨this.1, ?_⟩
    rw [List.foldl_cons, this.2, insF_len]; simp; exact ar38

theorem path_walk {c P ht a b pl ps weight led} (htab : (⟨c, P, (Str.ofString "_law_path" ++ ".<locals>.") ++ "<lambda>"⟩ : Tab) ∈ B.tabs) (ha : LstOf led a (aPaths pl)) (hb : LstOf led b (ai ps)) (hps : ∀ x ∈ ps, 0 ≤ x ∧ x.toNat < pl.length)
    (hpl : ∀ p ∈ pl, p.length ≤ 100) (hp3 : ps.length ≤ 3) (hn : pl.length ≤ 1000)
    (hins : SpecOK B (ht + 3) (.fn "insort_left") (insSpec B (ht + 1))) (hgo : SpecOK B (ht + 4) (.fn "_law_go") goSpec) (hgi : GlobIs B "insort_left" (.fn "insort_left")) (hgg : GlobIs B "_law_go" (.fn "_law_go"))
    (h : ∀ loc ext, Qr (.lst (ap (pathL pl ps weight))) ⟨loc, led ++ ext⟩) :
    WSs B ⟨fScope (sN 19), some (c, Str.ofString "_law_path" ++ ".<locals>."), ht + 4⟩ (fBody (sN 19)) Qn Qr ⟨[("paths", a), ("parts", b), ("weight", .int weight)], led⟩ := by
  refine s_cons ?_
  repeat top_name
  refine r_list ?_
  repeat top_name
  refine ⟨by exact Nat.zero_le _, ?_⟩
  repeat top_name
  -- for part in parts
  refine s_for ?_ (fun _ _ => rfl) (.inl fun _ _ => rfl)
  repeat top_name
  refine ⟨ai ps, _, fun j σ1 => σ1 = ⟨[("paths", a), ("parts", b), ("weight", .int weight), ("falls", .ref led.length)], led ++ [.list (((ps.take j).foldl (partF pl) []).map aF)]⟩ ∧
    (((ps.take j).foldl (partF pl) []).map fKey).Pairwise (· ≤ ·) ∧ ((ps.take j).foldl (partF pl) []).length ≤ 100 * j, it_list, ⟨rfl, by constructor, by simp⟩, ?_, ?_, ?_⟩
  · rintro j σ1 ⟨rfl, -, -⟩; exact hb.app _
  · rintro j σ1 x ⟨rfl, hsort, hlen⟩ - hx
    obtain ⟨part, hpart, rfl⟩ : AtI ps j (fun part => .int part) x := at_map hx
    have hj : j < ps.length := (List.getElem?_eq_some_iff.mp hpart).1
    have hpm := hps part (List.mem_of_getElem? hpart)
    generalize hfs : (ps.take j).foldl (partF pl) [] = fs at *
    have hpp : pl[part.toNat]? = some (pl.getD part.toNat []) := by simp [List.getD_eq_getElem?_getD, hpm.2]
    have hpl' : (pl.getD part.toNat []).length ≤ 100 := hpl _ (List.mem_of_getElem? hpp)
    generalize hq : pl.getD part.toNat [] = lp at *
    refine a_name ?_
    repeat top_name
    -- for hill, valley in paths[part]
    refine s_for ?_ (fun _ _ => rfl) (.inr ⟨_, _, _, rfl⟩)
    repeat top_name
    refine ix_list (l := aPaths pl) (x := .lst (ap lp)) (ha.app _) hpm.1 (ar409 hn hpm) (by simp [aPaths, hpp]) ?_
    refine ⟨ap lp, _, fun i σ1 => σ1 = ⟨[("paths", a), ("parts", b), ("weight", .int weight), ("falls", .ref led.length), ("part", .int part)], led ++ [.list (((lp.take i).foldl (fun fs q => insF fs (part, q.1, q.2)) fs).map aF)]⟩, it_list, by simp, ?_, ?_, ?_⟩
    · rintro i σ1 rfl; exact .fz _
    · rintro i σ1 x rfl - hx
      obtain ⟨q, hq', rfl⟩ : AtI lp i (fun q => .tup [.int q.1, .int q.2]) x := at_map hx
      have hi : i < lp.length := (List.getElem?_eq_some_iff.mp hq').1
      obtain ⟨s1, s2⟩ := partF_ok (pl := pl) (part := part) (lp.take i) fs hsort
      rw [List.length_take] at s2
      have hnext : ((lp.take (i + 1)).foldl (fun fs q => insF fs (part, q.1, q.2)) fs) = insF ((lp.take i).foldl (fun fs q => insF fs (part, q.1, q.2)) fs) (part, q.1, q.2) := by
        rw [List.take_add_one, hq', List.foldl_append]; rfl
      generalize (lp.take i).foldl (fun fs q => insF fs (part, q.1, q.2)) fs = g at *
      refine a_tuple ?_ rfl (fun _ => rfl) (fun _ => rfl)
      refine a_name ?_
      repeat top_name
      refine a_name ?_
      repeat top_name
      change WSs _ _ _ _ _ _
      repeat top_name
      refine s_expr ?_ rfl (fun _ => rfl)
      refine r_callk ?_ (fun _ => rfl)
      refine r_global (by none_booked) hgi ?_ (by none_booked)
      refine ⟨.fn _, ?_⟩
      repeat top_name
      refine r_tuple ?_
      repeat top_name
      refine ⟨by simp, ?_⟩
      repeat top_name
      refine r_lambda rfl htab (fun _ => rfl) (fun _ => rfl) ?_
      refine ⟨insSpec B (ht + 1), ht + 3, hins, Nat.le_succ _, led.length, aF (part, q.1, q.2), _, g.map aF, g.map fKey, fKey (part, q.1, q.2), fFall, rfl, rfl, get_last, map_fall g, by simp; exact ar410 hp3 hj hlen hpl' s2, s1, .lam .., ?_, rfl, ?_⟩
      · refine spec_lam (x := Str.ofString "one") (fun fd v h1 h2 => ?_) (by decide +kernel) (by decide +kernel) (by simp only []) (by simp only []) (by simp only []) ?_
        · obtain ⟨⟩ := fd
          dsimp only at h1 h2
          subst h1 h2
          rfl
        · rintro args kws led' Q' ⟨rfl, v, i, rfl, hf, hq⟩
          refine ⟨rfl, v, rfl, ?_⟩
          obtain ⟨p', h', v', rfl⟩ : ∃ p' h' v', v = .tup [.int p', .int h', .int v'] := by
            unfold fFall at hf
            split at hf
            · exact ⟨_, _, _, rfl⟩
            · cases hf
          cases hf
          refine r_binop ?_
          repeat top_name
          refine ix_tup (by constructor) (by decide +kernel) rfl ?_
          repeat top_name
          refine ix_tup (by constructor) (by decide +kernel) rfl ?_
          repeat top_name
          exact ⟨rfl, hq⟩
      · dsimp only
        rw [set_last]
        repeat top_name
        refine ⟨_, .names (get_pre [("paths", a), ("parts", b), ("weight", .int weight), ("falls", .ref led.length), ("part", .int part)] _) (.refl _), by simp, ?_⟩
        rw [hnext]
        refine congrArg (fun z => St.mk _ (led ++ [MO.list z])) ?_
        simp [insF]
    · rintro σ1 rfl -
      refine s_nil ?_
      have e0 : lp.take (ap lp).length = lp := by simp [ap]
      have e1 : (ps.take (j + 1)).foldl (partF pl) [] = lp.foldl (fun fs q => insF fs (part, q.1, q.2)) fs := by
        rw [List.take_add_one, hpart, List.foldl_append, hfs]
        show partF pl fs part = _
        unfold partF; rw [hq]
      obtain ⟨s1, s2⟩ := partF_ok (pl := pl) (part := part) lp fs hsort
      rw [e0]
      refine ⟨_, .names (get_pre [("paths", a), ("parts", b), ("weight", .int weight), ("falls", .ref led.length)] _) (.refl _), by simp, ?_⟩
      dsimp only
      rw [e1]
      exact ⟨rfl, s1, by rw [s2]; exact ar411 hlen hpl'⟩
  · rintro σ1 ⟨rfl, hsort, hlen⟩ -
    have e0 : (ps.take (ai ps).length).foldl (partF pl) [] = fallsOf pl ps := by simp [ai, fallsOf]
    rw [e0] at hsort hlen ⊢
    have hlen' : (fallsOf pl ps).length ≤ 300 := by simp [ai] at hlen; exact ar412 hp3 hlen
    unfold pathL at h
    generalize fallsOf pl ps = fs at *
    repeat top_name
    refine s_tupsw (names := ["path", "total", "now"]) ?_ (fun _ _ => rfl) (fun env he => by cases env; subst he; kernel_rfl)
    refine r_tuple ?_
    repeat top_name
    refine r_listz ?_
    repeat top_name
    refine ⟨by exact Nat.zero_le _, ?_⟩
    repeat top_name
    refine r_dict0 ?_
    repeat top_name
    refine ⟨by simp, _, rfl, rfl, ?_⟩
    change WSt _ _ _ _ _ _
    repeat top_name
    change WSt _ _ _ _ _ _
    repeat top_name
    change WSt _ _ _ _ _ _
    repeat top_name
    change WSs _ _ _ _ _ _
    repeat top_name
    refine s_for ?_ (fun _ _ => rfl) (.inr ⟨_, _, _, rfl⟩)
    repeat top_name
    have hst : ∀ j, PathOk (pathRun (fs.take j)).1 ∧ (pathRun (fs.take j)).1.length ≤ j ∧ (pathRun (fs.take j)).2.2.length ≤ j := fun j => by
      induction j with
      | zero => exact ⟨⟨by constructor, by constructor⟩, by exact Nat.zero_le _, by exact Nat.zero_le _⟩
      | succ j ih =>
        rw [List.take_add_one]
        cases e : fs[j]? with
        | none => simpa using ⟨ih.1, Nat.le_succ_of_le ih.2.1, Nat.le_succ_of_le ih.2.2⟩
        | some f =>
          have : pathRun (fs.take j ++ (some f).toList) = pathStep (pathRun (fs.take j)) f := by simp [pathRun, List.foldl_append]
          rw [this]
          refine ⟨pathStep_ok ih.1 f, ?_, ?_⟩
          · exact Nat.le_trans (goL_len _ _ _) (by omega)
          · exact Nat.le_trans (dsetI_len _ _ _) (by omega)
    refine ⟨fs.map aF, _, fun j σ1 => σ1 = ⟨[("paths", a), ("parts", b), ("weight", .int weight), ("falls", .ref led.length), ("now", .ref (led.length + 1)), ("total", .int (pathRun (fs.take j)).2.1), ("path", .lst (ap (pathRun (fs.take j)).1))],
      led ++ [.list (fs.map aF), .dict (dI (pathRun (fs.take j)).2.2)]⟩, it_list, by simp [pathRun, dI, ap], ?_, ?_, ?_⟩
    · rintro j σ1 rfl; exact .md (by simp)
    · rintro j σ1 x rfl - hx
      obtain ⟨f, hf, rfl⟩ : AtI fs j (fun f => aF f) x := at_map hx
      have hj : j < fs.length := (List.getElem?_eq_some_iff.mp hf).1
      obtain ⟨o1, o2, o3⟩ := hst j
      have hnext : pathRun (fs.take (j + 1)) = pathStep (pathRun (fs.take j)) f := by rw [List.take_add_one, hf]; simp [pathRun, List.foldl_append]
      generalize pathRun (fs.take j) = st at *
      obtain ⟨part, hill, valley⟩ := f
      refine a_tuple (as := [.int part, .int hill, .int valley]) ?_ rfl (fun _ => rfl) (fun _ => rfl)
      refine a_name ?_
      repeat top_name
      refine a_name ?_
      repeat top_name
      refine a_name ?_
      repeat top_name
      change WSs _ _ _ _ _ _
      repeat top_name
      refine s_aug (by none_booked) (by one_sign) ?_
      refine r_meth PySem.F.plainAttrs_dict PySem.F.slot_dict_get PySem.F.type_dict_get (fun _ => rfl) (fun _ => rfl) rfl ?_
      repeat top_name
      refine m_get2 (d₀ := dI st.2.2) (by simp) (fun _ => rfl) ?_
      repeat top_name
      refine ⟨part, dI st.2.2, rfl, by simp, ?_⟩
      have e2 : (dget (dI st.2.2) part).getD (.int 0) = .int ((dgetI st.2.2 part).getD 0) := by rw [dget_dI]; cases dgetI st.2.2 part <;> rfl
      rw [e2]
      refine o_isub ?_
      repeat top_name
      refine r_callf ?_ (fun _ => rfl)
      refine r_global (by none_booked) hgg ?_ (by none_booked)
      refine ⟨.fn _, ?_⟩
      repeat top_name
      refine ⟨goSpec, ht + 4, hgo, Nat.le_refl _, rfl, _, st.1, _, _, rfl, .fz _, (ar413 hlen' hj o2), o1, ?_⟩
      repeat top_name
      refine s_aug (by none_booked) (by one_sign) ?_
      repeat top_name
      refine o_iadd ?_
      repeat top_name
      refine s_setitem ?_ (fun _ => rfl)
      repeat top_name
      refine set_dict (d := dI st.2.2) (by simp) (by simp [dI]; exact ar414 hlen' hj o3) ?_
      repeat top_name
      rw [dset_dI]
      refine ⟨_, .names (get_pre [("paths", a), ("parts", b), ("weight", .int weight), ("falls", .ref led.length), ("now", .ref (led.length + 1)), ("total", _), ("path", _)] _) (.refl _), by simp, ?_⟩
      dsimp only
      rw [hnext]
      simp [pathStep]
    · rintro σ1 rfl -
      have e1 : fs.take (fs.map aF).length = fs := by simp
      rw [e1]
      obtain ⟨o1, o2, o3⟩ := hst fs.length
      rw [List.take_length] at o1 o2 o3
      generalize pathRun fs = st at *
      repeat top_name
      refine r_callf ?_ (fun _ => rfl)
      refine r_global (by none_booked) hgg ?_ (by none_booked)
      refine ⟨.fn _, ?_⟩
      repeat top_name
      refine ⟨goSpec, ht + 4, hgo, Nat.le_refl _, rfl, _, st.1, _, _, rfl, .fz _, (ar415 hlen' o2), o1, ?_⟩
      exact h _ _
theorem path_ok {c P ht} (D : Def B "_law_path" 19 c NoD) (htab : (⟨c, P, (Str.ofString "_law_path" ++ ".<locals>.") ++ "<lambda>"⟩ : Tab) ∈ B.tabs)
    (hins : SpecOK B (ht + 3) (.fn "insort_left") (insSpec B (ht + 1))) (hgo : SpecOK B (ht + 4) (.fn "_law_go") goSpec) (hgi : GlobIs B "insort_left" (.fn "insort_left")) (hgg : GlobIs B "_law_go" (.fn "_law_go")) :
    SpecOK B (ht + 5) (.fn "_law_path") pathSpec := by
  refine spec_def D (by decide +kernel) (by decide +kernel) (by decide +kernel) (by decide +kernel) ?_
  intro Z φ E s vs ks args kws led Q name dV kV doc pm an ct hP I rv rk ⟨hkw, a, b, pl, ps, weight, ha, h1, h2, h3, h4, h5, h6, h7, hq⟩
  obtain ⟨rfl, rfl⟩ := hP
  subst hkw ha
  obtain rfl := rk.nil_i
  replace rv := rv.cons_i; obtain ⟨v1, _, rfl, r1, rv⟩ := rv
  replace rv := rv.cons_i; obtain ⟨v2, _, rfl, r2, rv⟩ := rv
  replace rv := rv.cons_i; obtain ⟨v3, _, rfl, r3, rv⟩ := rv
  obtain rfl := rv.nil_i
  refine ⟨[("paths", v1), ("parts", v2), ("weight", v3)], [("paths", a), ("parts", b), ("weight", .int weight)], .of_eq rfl, .cons r1 (.cons r2 (.cons r3 .nil)), nd_names ["paths", "parts", "weight"] (by decide +kernel) rfl,
    loc_names ["paths", "parts", "weight"] (by decide +kernel) rfl, path_walk htab h1 h2 h3 h4 h5 h6 hins hgo hgi hgg fun loc ext => ?_⟩
  exact ⟨_, led, rw_cut h7 (by simp [nr, ap, nrs_map, nrs]), Nat.le_refl _, hq⟩
end
section
open PySem PySem.W PyProof.Rows PySem.SeqAt
set_option Elab.async false
set_option linter.unusedVariables false
set_option linter.unnecessarySimpa false
set_option maxRecDepth 100000
variable {B : Base} {F : Frm} {σ : St} {Q : AV → St → Prop} {Qn : St → Prop} {Qr : AV → St → Prop}
inductive eofSpec (args : List AV) (kws : List (Str × AV)) (led : List MO) (Q : AV → List MO → Prop) : Prop
  | mk : kws = [] → ∀ x : Int, args = [.int x] → Q (.bool (x == 0)) led → eofSpec args kws led Q
inductive ntSpec (args : List AV) (kws : List (Str × AV)) (led : List MO) (Q : AV → List MO → Prop) : Prop
  | mk : kws = [] → ∀ x : Int, args = [.int x] → Q (.bool (decide (x ≥ 256))) led → ntSpec args kws led Q
theorem eof_ok {c ht} (D : Def B "ISEOF" 14 c NoD) (hg : GlobIs B "ENDMARKER" (.int 0)) : SpecOK B (ht + 1) (.fn "ISEOF") eofSpec := by
  refine spec_def D (by decide +kernel) (by decide +kernel) (by decide +kernel) (by decide +kernel) ?_
  intro Z φ E s vs ks args kws led Q name dV kV doc pm an ct hP I rv rk ⟨hkw, x, ha, hq⟩
  obtain ⟨rfl, rfl⟩ := hP
  subst hkw ha
  obtain rfl := rk.nil_i
  replace rv := rv.cons_i; obtain ⟨v1, _, rfl, r1, rv⟩ := rv
  obtain rfl := rv.nil_i
  refine ⟨[("x", v1)], [("x", .int x)], .of_eq rfl, .cons r1 .nil, nd_names ["x"] (by decide +kernel) rfl, loc_names ["x"] (by decide +kernel) rfl, ?_⟩
  refine s_cons ?_
  repeat top_name
  refine r_global (by none_booked) hg ?_ (by none_booked)
  repeat top_name
  exact ⟨_, led, .refl _ _, Nat.le_refl _, hq⟩
theorem nt_ok {c ht} (D : Def B "ISNONTERMINAL" 13 c NoD) (hg : GlobIs B "NT_OFFSET" (.int 256)) : SpecOK B (ht + 1) (.fn "ISNONTERMINAL") ntSpec := by
  refine spec_def D (by decide +kernel) (by decide +kernel) (by decide +kernel) (by decide +kernel) ?_
  intro Z φ E s vs ks args kws led Q name dV kV doc pm an ct hP I rv rk ⟨hkw, x, ha, hq⟩
  obtain ⟨rfl, rfl⟩ := hP
  subst hkw ha
  obtain rfl := rk.nil_i
  replace rv := rv.cons_i; obtain ⟨v1, _, rfl, r1, rv⟩ := rv
  obtain rfl := rv.nil_i
  refine ⟨[("x", v1)], [("x", .int x)], .of_eq rfl, .cons r1 .nil, nd_names ["x"] (by decide +kernel) rfl, loc_names ["x"] (by decide +kernel) rfl, ?_⟩
  refine s_cons ?_
  repeat top_name
  refine r_global (by none_booked) hg ?_ (by none_booked)
  repeat top_name
  exact ⟨_, led, .refl _ _, Nat.le_refl _, hq⟩

/-! ### the tables -/
inductive ordSpec (S : Int → Bool) (args : List AV) (kws : List (Str × AV)) (led : List MO) (Q : AV → List MO → Prop) : Prop
  | mk : kws = [] → ∀ c : Nat, args = [.str ⟨#[c]⟩] → Q (.bool (S c)) led → ordSpec S args kws led Q
theorem c7_ok {c ht S} (D : Def B "in_table_c7" 9 c NoD) (ho : GlobIs B "ord" (.bi "ord")) (hg : GlobIs B "c7_set" (.iset S)) : SpecOK B (ht + 1) (.fn "in_table_c7") (ordSpec S) := by
  refine spec_def D (by decide +kernel) (by decide +kernel) (by decide +kernel) (by decide +kernel) ?_
  intro Z φ E s vs ks args kws led Q name dV kV doc pm an ct hP I rv rk ⟨hkw, x, ha, hq⟩
  obtain ⟨rfl, rfl⟩ := hP
  subst hkw ha
  obtain rfl := rk.nil_i
  replace rv := rv.cons_i; obtain ⟨v1, _, rfl, r1, rv⟩ := rv
  obtain rfl := rv.nil_i
  refine ⟨[("code", v1)], [("code", .str ⟨#[x]⟩)], .of_eq rfl, .cons r1 .nil, nd_names ["code"] (by decide +kernel) rfl, loc_names ["code"] (by decide +kernel) rfl, ?_⟩
  refine s_cons ?_
  repeat top_name
  refine r_callb ?_ (fun _ => rfl) (fun _ => rfl)
  refine r_global (by none_booked) ho ?_ (by none_booked)
  refine ⟨_, rfl, ?_⟩
  repeat top_name
  refine k_ord ?_
  refine r_global (by none_booked) hg ?_ (by none_booked)
  refine c_in_set ?_
  exact ⟨_, led, .refl _ _, Nat.le_refl _, hq⟩
theorem b1_ok {c ht S} (D : Def B "in_table_b1" 5 c NoD) (ho : GlobIs B "ord" (.bi "ord")) (hg : GlobIs B "b1_set" (.iset S)) : SpecOK B (ht + 1) (.fn "in_table_b1") (ordSpec S) := by
  refine spec_def D (by decide +kernel) (by decide +kernel) (by decide +kernel) (by decide +kernel) ?_
  intro Z φ E s vs ks args kws led Q name dV kV doc pm an ct hP I rv rk ⟨hkw, x, ha, hq⟩
  obtain ⟨rfl, rfl⟩ := hP
  subst hkw ha
  obtain rfl := rk.nil_i
  replace rv := rv.cons_i; obtain ⟨v1, _, rfl, r1, rv⟩ := rv
  obtain rfl := rv.nil_i
  refine ⟨[("code", v1)], [("code", .str ⟨#[x]⟩)], .of_eq rfl, .cons r1 .nil, nd_names ["code"] (by decide +kernel) rfl, loc_names ["code"] (by decide +kernel) rfl, ?_⟩
  refine s_cons ?_
  repeat top_name
  refine r_callb ?_ (fun _ => rfl) (fun _ => rfl)
  refine r_global (by none_booked) ho ?_ (by none_booked)
  refine ⟨_, rfl, ?_⟩
  repeat top_name
  refine k_ord ?_
  refine r_global (by none_booked) hg ?_ (by none_booked)
  refine c_in_set ?_
  exact ⟨_, led, .refl _ _, Nat.le_refl _, hq⟩
/-- what map_table_b3 gives at a sign that the law may meet -/
def b3Of (ks : List Int) (vs : List Str) (c : Nat) : Option Str := match dgetl ks (vs.map .str) c with
  | some (.str s) => some s
  | _ => if 65 ≤ c ∧ c ≤ 90 then some ⟨#[c + 32]⟩ else none
inductive b3Spec (ks : List Int) (vs : List Str) (args : List AV) (kws : List (Str × AV)) (led : List MO) (Q : AV → List MO → Prop) : Prop
  | mk : kws = [] → ∀ (c : Nat) (s : Str), args = [.str ⟨#[c]⟩] → b3Of ks vs c = some s → Q (.str s) led → b3Spec ks vs args kws led Q
theorem dgetl_str : ∀ (ks : List Int) (vs : List Str) (c : Int), (∃ s, dgetl ks (vs.map .str) c = some (.str s)) ∨ dgetl ks (vs.map .str) c = none
  | [], _, _ => .inr rfl
  | _ :: _, [], _ => .inr rfl
  | k :: ks, v :: vs, c => by
    simp only [List.map_cons, dgetl]
    split
    · exact .inl ⟨v, rfl⟩
    · exact dgetl_str ks vs c
theorem b3_ok {c ht ks vs} (D : Def B "map_table_b3" 7 c NoD) (ho : GlobIs B "ord" (.bi "ord")) (hg : GlobIs B "b3_exceptions" (.dct ks (vs.map .str))) : SpecOK B (ht + 1) (.fn "map_table_b3") (b3Spec ks vs) := by
  refine spec_def D (by decide +kernel) (by decide +kernel) (by decide +kernel) (by decide +kernel) ?_
  intro Z φ E s vs' ks' args kws led Q name dV kV doc pm an ct hP I rv rk ⟨hkw, x, r, ha, hr, hq⟩
  obtain ⟨rfl, rfl⟩ := hP
  subst hkw ha
  obtain rfl := rk.nil_i
  replace rv := rv.cons_i; obtain ⟨v1, _, rfl, r1, rv⟩ := rv
  obtain rfl := rv.nil_i
  refine ⟨[("code", v1)], [("code", .str ⟨#[x]⟩)], .of_eq rfl, .cons r1 .nil, nd_names ["code"] (by decide +kernel) rfl, loc_names ["code"] (by decide +kernel) rfl, ?_⟩
  refine s_cons ?_
  repeat top_name
  refine r_meth PySem.F.plainAttrs_dict PySem.F.slot_dict_get PySem.F.type_dict_get (fun _ => rfl) (fun _ => rfl) rfl ?_
  refine r_global (by none_booked) hg ?_ (by none_booked)
  refine m_get1 (fun _ => rfl) ?_
  refine r_callb ?_ (fun _ => rfl) (fun _ => rfl)
  refine r_global (by none_booked) ho ?_ (by none_booked)
  refine ⟨_, rfl, ?_⟩
  repeat top_name
  refine k_ord ?_
  refine ⟨x, rfl, ?_⟩
  unfold b3Of at hr
  rcases dgetl_str ks vs x with ⟨y, e⟩ | e
  · rw [e] at hr ⊢
    cases hr
    repeat top_name
    refine c_isNotNone_other (by simp) (by simp) ?_
    repeat top_name
    exact ⟨_, led, .refl _ _, Nat.le_refl _, hq⟩
  · rw [e] at hr ⊢
    dsimp only at hr
    split at hr
    · rename_i hc
      cases hr
      repeat top_name
      refine c_isNotNone_self ?_
      repeat top_name
      rw [if_neg (by simp)]
      repeat top_name
      refine r_meth PySem.F.plainAttrs_str PySem.F.slot_str_lower PySem.F.type_str_lower (fun _ => rfl) (fun _ => rfl) rfl ?_
      repeat top_name
      refine m_lower hc.1 hc.2 ?_
      exact ⟨_, led, .refl _ _, Nat.le_refl _, hq⟩
    · cases hr
end
section
open PySem PySem.W PyProof.Rows PySem.SeqAt
set_option Elab.async false
set_option linter.unusedVariables false
set_option linter.unnecessarySimpa false
set_option maxRecDepth 100000
variable {B : Base} {F : Frm} {σ : St} {Q : AV → St → Prop} {Qn : St → Prop} {Qr : AV → St → Prop}
def arity (s : Int) : Nat := if s ≥ 256 then (if s = 12274 ∨ s = 12275 then 3 else 2) else 0
def weightOf (s : Int) : Int := if s ≥ 256 then 2 * (s - 12271) else s - 96
structure TS where
  w : List Int
  g : List Int
  o : List Int
  p : List (List (Int × Int))
  pile : List Int
def TS.init : TS := ⟨[], [], [], [], []⟩
def partsOf (t : TS) (s : Int) : List Int := t.pile.reverse.take (arity s)
def overSet (n : Nat) (o : List Int) (ps : List Int) : List Int := ps.foldl (fun o q => o.set q.toNat (2 ^ n)) o
def treeStep (t : TS) (s : Int) : TS :=
  ⟨t.w ++ [weightOf s], t.g ++ [((partsOf t s).map fun q => t.w.getD q.toNat 0).sum], overSet t.p.length t.o (partsOf t s) ++ [0], t.p ++ [pathL t.p (partsOf t s) (weightOf s)], t.pile.take (t.pile.length - arity s) ++ [(t.p.length : Int)]⟩
def treeRun (rs : List Int) : TS := rs.foldl treeStep TS.init
structure TOk (t : TS) : Prop where
  w : t.w.length = t.p.length
  g : t.g.length = t.p.length
  o : t.o.length = t.p.length
  q : ∀ x ∈ t.pile, 0 ≤ x ∧ x.toNat < t.p.length
  nd : t.pile.Nodup
  k : t.pile.length ≤ t.p.length
  l : ∀ p ∈ t.p, p.length ≤ t.p.length
  s : (t.pile.map fun x => (t.p.getD x.toNat []).length).sum ≤ t.p.length
theorem arity_le (s : Int) : arity s ≤ 3 := by unfold arity; split <;> (try split) <;> (first | exact ar422 | exact ar423 | exact ar424)
theorem overSet_len (n : Nat) (ps : List Int) : ∀ o : List Int, (overSet n o ps).length = o.length := by
  induction ps with
  | nil => intro o; rfl
  | cons q r ih => intro o; unfold overSet at ih ⊢; rw [List.foldl_cons, ih]; simp
theorem foldl_partF_len (pl : List (List (Int × Int))) : ∀ (ps : List Int) (fs : List Fall), (ps.foldl (partF pl) fs).length = fs.length + (ps.map fun x => (pl.getD x.toNat []).length).sum
  | [], fs => by rfl
  | x :: ps, fs => by
    rw [List.foldl_cons, foldl_partF_len pl ps]
    have : (partF pl fs x).length = fs.length + (pl.getD x.toNat []).length := by
      unfold partF
      generalize pl.getD x.toNat [] = l
      induction l generalizing fs with
      | nil => simp
      | cons q r ih => rw [List.foldl_cons, ih, insF_len]; simp; exact ar38
    rw [this]; simp; exact ar425
theorem pathRun_len (fs : List Fall) : (pathRun fs).1.length ≤ fs.length := by
  unfold pathRun
  have : ∀ (s : PSt), (fs.foldl pathStep s).1.length ≤ s.1.length + fs.length := by
    induction fs with
    | nil => intro s; simp
    | cons f r ih =>
      intro s
      rw [List.foldl_cons]
      refine Nat.le_trans (ih _) ?_
      have := goL_len s.1 (s.2.1 - (dgetI s.2.2 f.1).getD 0 + f.2.1) (s.2.1 - (dgetI s.2.2 f.1).getD 0 + f.2.2)
      unfold pathStep; simp; exact ar426 this
  simpa using this ([], 0, [])
theorem pathL_len (pl ps w) : (pathL pl ps w).length ≤ (ps.map fun x => (pl.getD x.toNat []).length).sum + 1 := by
  unfold pathL
  refine Nat.le_trans (goL_len _ _ _) ?_
  have := pathRun_len (fallsOf pl ps)
  have e := foldl_partF_len pl ps []
  unfold fallsOf at *
  rw [List.length_nil] at e; exact ar427 this e
theorem treeStep_ok {t : TS} (h : TOk t) {s : Int} (ha : arity s ≤ t.pile.length) : TOk (treeStep t s) := by
  have hsplit : t.pile = t.pile.take (t.pile.length - arity s) ++ (partsOf t s).reverse := by
    unfold partsOf
    rw [List.take_reverse, List.reverse_reverse, List.take_append_drop]
  have hmem : ∀ x ∈ partsOf t s, x ∈ t.pile := fun x hx => by
    rw [hsplit]; simp [hx]
  have hsum : (t.pile.map fun x => (t.p.getD x.toNat []).length).sum = ((t.pile.take (t.pile.length - arity s)).map fun x => (t.p.getD x.toNat []).length).sum + ((partsOf t s).map fun x => (t.p.getD x.toNat []).length).sum := by
    conv => lhs; rw [hsplit]
    rw [List.map_append, List.sum_append, List.map_reverse, List.sum_reverse]
  have hlast := pathL_len t.p (partsOf t s) (weightOf s)
  have hs := h.s
  have keep : ∀ x ∈ t.pile, (t.p ++ [pathL t.p (partsOf t s) (weightOf s)]).getD x.toNat [] = t.p.getD x.toNat [] := fun x hx => by
    have := (h.q x hx).2
    simp [List.getD_eq_getElem?_getD, List.getElem?_append_left this]
  refine ⟨by simp [treeStep, h.w], by simp [treeStep, h.g], by simp [treeStep, overSet_len, h.o], fun x hx => ?_, ?_, by have := h.k; simp [treeStep]; exact ar428 this, fun p hp => ?_, ?_⟩
  · simp only [treeStep, List.mem_append, List.mem_singleton] at hx
    simp only [treeStep, List.length_append, List.length_singleton]
    rcases hx with hx | rfl
    · have := h.q x (List.mem_of_mem_take hx); exact ar429 this
    · exact ar430
  · simp only [treeStep]
    rw [List.nodup_append]
    refine ⟨h.nd.sublist (List.take_sublist _ _), by simp, fun a ha b hb e => ?_⟩
    simp at hb
    have := (h.q a (List.mem_of_mem_take ha)).2
    subst hb; subst e; exact ar431 this
  · simp only [treeStep, List.mem_append, List.mem_singleton] at hp
    simp only [treeStep, List.length_append, List.length_singleton]
    rcases hp with hp | rfl
    · have := h.l p hp; exact ar17 this
    · exact ar432 hsum hlast hs
  · simp only [treeStep, List.map_append, List.sum_append, List.length_append, List.length_singleton, List.map_cons, List.map_nil, List.sum_cons, List.sum_nil]
    have e1 : ((t.pile.take (t.pile.length - arity s)).map fun x => ((t.p ++ [pathL t.p (partsOf t s) (weightOf s)]).getD x.toNat []).length) = ((t.pile.take (t.pile.length - arity s)).map fun x => (t.p.getD x.toNat []).length) :=
      List.map_congr_left fun x hx => by rw [keep x (List.mem_of_mem_take hx)]
    rw [e1]
    have e2 : (t.p ++ [pathL t.p (partsOf t s) (weightOf s)]).getD ((t.p.length : Int)).toNat [] = pathL t.p (partsOf t s) (weightOf s) := by simp [List.getD_eq_getElem?_getD]
    rw [e2]; exact ar433 hsum hlast hs
/-- the row may be read: each symbol finds its parts on the pile -/
def Reads2 (rs : List Int) : Prop := ∀ (j : Nat) s, rs[j]? = some s → s ≠ 0 ∧ arity s ≤ (treeRun (rs.take j)).pile.length
theorem tree_ok {rs : List Int} (h : Reads2 rs) : ∀ j, j ≤ rs.length → TOk (treeRun (rs.take j)) ∧ (treeRun (rs.take j)).p.length = j := by
  intro j
  induction j with
  | zero => intro _; exact ⟨⟨rfl, rfl, rfl, by simp [treeRun, TS.init], by simp [treeRun, TS.init], by simp [treeRun, TS.init], by simp [treeRun, TS.init], by exact Nat.zero_le _⟩, by simp [treeRun, TS.init]⟩
  | succ j ih =>
    intro hj
    have hl : rs[j]? = some rs[j] := List.getElem?_eq_getElem (ar50 hj)
    have e : treeRun (rs.take (j + 1)) = treeStep (treeRun (rs.take j)) rs[j] := by rw [List.take_add_one, hl]; show List.foldl _ _ (_ ++ [_]) = _; rw [List.foldl_append]; rfl
    obtain ⟨i1, i2⟩ := ih (ar2 hj)
    rw [e]
    exact ⟨treeStep_ok i1 (h j _ hl).2, by simp [treeStep, i2]⟩
end
section
open PySem PySem.W PyProof.Rows PySem.SeqAt
set_option Elab.async false
set_option linter.unusedVariables false
set_option linter.unnecessarySimpa false
set_option maxRecDepth 100000
variable {B : Base} {F : Frm} {σ : St} {Q : AV → St → Prop} {Qn : St → Prop} {Qr : AV → St → Prop}
theorem nr_ai (l : List Int) : nrs (ai l) = true := nrs_map (fun _ => rfl) l
theorem nr_aP (l : List (List (Int × Int))) : nrs (aPaths l) = true := nrs_map (fun x => by simp [nr, ap, nrs_map, nrs]) l
def lowAll (k : Nat) (loc : List (Str × AV)) : Prop := ∀ p ∈ loc, low k p.2 = true
theorem get_mem {l : List (Str × AV)} {x av} (h : get l x = some av) : (x, av) ∈ l := by
  induction l with
  | nil => cases h
  | cons p r ih =>
    obtain ⟨k, v⟩ := p
    unfold get at h
    split at h
    · rename_i e; subst e; cases h; exact List.mem_cons_self
    · exact List.mem_cons_of_mem _ (ih h)
/-- names and objects that are no more wanted -/
theorem wkn_cut {loc x : List (Str × AV)} {led ext : List MO} (hn : NrL led) (hl : lowAll led.length loc) : Wkn ⟨loc ++ x, led ++ ext⟩ ⟨loc, led⟩ :=
  .cut ⟨by simp, fun i mo e => .inl ⟨by rw [List.getElem?_append_left (List.getElem?_eq_some_iff.mp e).1]; exact e, hn i mo e⟩, fun y av e => ⟨get_pre _ _ y av e, hl _ (get_mem e)⟩⟩ (.refl _)
theorem NrL.app {a b : List MO} (h : NrL a) (g : NrL b) : NrL (a ++ b) := fun i mo e => by
  rcases Nat.lt_or_ge i a.length with q | q
  · rw [List.getElem?_append_left q] at e; exact h i mo e
  · rw [List.getElem?_append_right q] at e; exact g _ mo e
theorem NrL.set {a : List MO} (h : NrL a) {i : Nat} {m : MO} (hm : nrM m = true) : NrL (a.set i m) := fun j mo e => by
  rw [List.getElem?_set] at e
  split at e
  · split at e
    · cases e; exact hm
    · cases e
  · exact h j mo e
theorem NrL.of {a : List MO} (h : ∀ m ∈ a, nrM m = true) : NrL a := fun i mo e => h mo (List.mem_of_getElem? e)

theorem we_same {e v} (h : WE B F e (fun a σ' => a = v ∧ σ' = σ) σ) (hq : Q v σ) : WE B F e Q σ := fun A env Z φ fr s hA hE R =>
  wpAny_mono (h A env Z φ fr s hA hE R) (fun f s1 ⟨Z1, φ1, σ1, a, x1, ra, R1, ea, es⟩ => by subst ea; subst es; exact ⟨Z1, φ1, _, _, x1, ra, R1, hq⟩) fun _ _ e => e
theorem ws_mono {st P} (h : WS B F st P Qr σ) (hp : ∀ σ', P σ' → Qn σ') : WS B F st Qn Qr σ := fun A env Z φ fr s hA hE R =>
  wpAny_mono (h A env Z φ fr s hA hE R) (fun f s1 ⟨Z1, φ1, σ1, x1, R1, h1⟩ => ⟨Z1, φ1, σ1, x1, R1, by cases f with | next => exact hp _ h1 | ret v => exact h1 | brk => exact h1 | cont => exact h1⟩) fun _ _ e => e
def rowLed (led : List MO) (r : Nat) (row : List Int) (t : TS) : List MO := led.set r (.list (ai row)) ++ [.list (ai t.w), .list (ai t.g), .list (ai t.o), .list (aPaths t.p), .list (ai t.pile)]
def treeLoc (r L : Nat) : List (Str × AV) := [("row", .ref r), ("weights", .ref L), ("gains", .ref (L + 1)), ("over", .ref (L + 2)), ("paths", .ref (L + 3)), ("pile", .ref (L + 4))]

def treeLoc2 (r L : Nat) (sym w : Int) : List (Str × AV) := [("row", .ref r), ("weights", .ref L), ("gains", .ref (L + 1)), ("over", .ref (L + 2)), ("paths", .ref (L + 3)), ("pile", .ref (L + 4)), ("symbol", .int sym), ("weight", .int w), ("parts", .ref (L + 5))]
theorem rowLed_len (led r row t) : (rowLed led r row t).length = led.length + 5 := by simp [rowLed]
section
variable {led ext : List MO} {r : Nat} {row : List Int} {t : TS}
theorem rl_w : (rowLed led r row t ++ ext)[led.length]? = some (.list (ai t.w)) := by simp [rowLed]
theorem rl_g : (rowLed led r row t ++ ext)[led.length + 1]? = some (.list (ai t.g)) := by simp [rowLed, List.getElem?_append]
theorem rl_o : (rowLed led r row t ++ ext)[led.length + 2]? = some (.list (ai t.o)) := by simp [rowLed, List.getElem?_append]
theorem rl_p : (rowLed led r row t ++ ext)[led.length + 3]? = some (.list (aPaths t.p)) := by simp [rowLed, List.getElem?_append]
theorem rl_q : (rowLed led r row t ++ ext)[led.length + 4]? = some (.list (ai t.pile)) := by simp [rowLed, List.getElem?_append]
theorem rl_x {m : MO} : (rowLed led r row t ++ [m])[led.length + 5]? = some m := by rw [← rowLed_len led r row t]; simp
theorem rl_setw (x : List Int) : (rowLed led r row t ++ ext).set led.length (.list (ai x)) = rowLed led r row { t with w := x } ++ ext := by simp [rowLed, List.set_append]
theorem rl_setg (x : List Int) : (rowLed led r row t ++ ext).set (led.length + 1) (.list (ai x)) = rowLed led r row { t with g := x } ++ ext := by simp [rowLed, List.set_append]
theorem rl_seto (x : List Int) : (rowLed led r row t ++ ext).set (led.length + 2) (.list (ai x)) = rowLed led r row { t with o := x } ++ ext := by simp [rowLed, List.set_append]
theorem rl_setp (x : List (List (Int × Int))) : (rowLed led r row t ++ ext).set (led.length + 3) (.list (aPaths x)) = rowLed led r row { t with p := x } ++ ext := by simp [rowLed, List.set_append]
theorem rl_setq (x : List Int) : (rowLed led r row t ++ ext).set (led.length + 4) (.list (ai x)) = rowLed led r row { t with pile := x } ++ ext := by simp [rowLed, List.set_append]
theorem rl_setx {m m' : MO} : (rowLed led r row t ++ [m]).set (led.length + 5) m' = rowLed led r row t ++ [m'] := by rw [← rowLed_len led r row t]; simp
end
theorem ai_set (l : List Int) (i : Nat) (x : Int) : (ai l).set i (.int x) = ai (l.set i x) := by simp [ai, List.map_set]
theorem aP_snoc (l : List (List (Int × Int))) (x) : aPaths l ++ [.lst (ap x)] = aPaths (l ++ [x]) := by simp [aPaths]
theorem ai_snoc (l : List Int) (x : Int) : ai l ++ [.int x] = ai (l ++ [x]) := by simp [ai]
theorem rowLed_nr {led r row t} (h : NrL led) : NrL (rowLed led r row t) := (h.set (m := .list (ai row)) (nr_ai row)).app (.of (by simp [nrM, nr_ai, nr_aP]))

def treeCF (ht : Nat) : Frm := ⟨{ kind := .function, names := [(".0", .local), ("part", .local), ("weights", .cell)], isGenerator := false, isCoroutine := false, more := [] }, none, ht⟩
def treeCS : Scope := { kind := .function, names := [(".0", .local), ("part", .local), ("weights", .free)], isGenerator := false, isCoroutine := false, more := [] }
theorem one_cell {F : Frm} {env : Env} {x : Str} (hE : EnvOk F env) (h : (cellsFrom 0 F.sc.names []).map (·.1) = [x]) : ∃ c, env.cells = [(x, c)] := by
  have e := hE.celle
  rw [h] at e
  match hc : env.cells, e with
  | [(y, c)], e => simp at e; subst e; exact ⟨c, rfl⟩
  | [], e => simp at e
  | _ :: _ :: _, e => simp at e
theorem treeCF_ok {c q ht pos} : CompFrm ⟨fScope (sN 20), some (c, q), ht⟩ (treeCF ht) true treeCS (.Name "part" pos) where
  clos := fun env hE => by
    obtain ⟨c, hc⟩ := one_cell (x := "weights") hE (by dsimp only; decide +kernel)
    have hk : cellOf env "weights" = pure c := by unfold cellOf; rw [hc]; rfl
    show closureFor treeCS env = pure env.cells
    unfold closureFor treeCS
    simp only [List.forIn_cons, List.forIn_nil]
    rw [hc, hk]
    rfl
  rel := fun env he => by
    have he : env.scope = fScope (sN 20) := he
    have h1 : (fScope (sN 20)).names.lookup (Str.ofString "weights") = some .cell := by decide +kernel
    have h2 : (fScope (sN 20)).kind = .function := by rfl
    unfold relabel treeCS Env.kindOf
    rw [he, h2]
    simp only [List.map_cons, List.map_nil]
    rw [h1]
    rfl
  kind := rfl
  kind' := rfl
  code := rfl
  ht := rfl
  nocell := by decide +kernel
  names := by decide +kernel
  c1 := fun x hx => by
    have := mem_of_lookup' hx
    simp [treeCF] at this
    subst this
    exact ⟨rfl, by dsimp only; decide +kernel⟩
  c2 := fun _ x hx => by
    have h1 : ∀ p ∈ (fScope (sN 20)).names, p.2 = .cell → p.1 = "weights" := by decide +kernel
    have := h1 _ (mem_of_lookup' hx) rfl
    dsimp only at this
    subst this
    show List.lookup _ (treeCF 0).sc.names = _
    assumption
  c3 := by simp only [if_true]; show List.map _ (cellsFrom 0 (treeCF 0).sc.names []) = _; decide +kernel
  tg := .inl fun _ _ => rfl
theorem cf_part (ht : Nat) : (treeCF ht).sc.names.lookup (Str.ofString "part") = some .local := by show List.lookup _ (treeCF 0).sc.names = _; decide +kernel
theorem cf_weights (ht : Nat) : (treeCF ht).sc.names.lookup (Str.ofString "weights") = some .cell := by show List.lookup _ (treeCF 0).sc.names = _; decide +kernel
structure Boxd (p : Prop) : Prop where
  get : p
theorem tree_walk {c q ht r rs led} (hr : led[r]? = some (.list (ai (0 :: rs.reverse)))) (hnr : NrL led) (hrd : Reads2 rs) (hlen : rs.length ≤ 60)
    (heof : SpecOK B (ht + 1) (.fn "ISEOF") eofSpec) (hnt : SpecOK B (ht + 1) (.fn "ISNONTERMINAL") ntSpec) (hpath : SpecOK B (ht + 5) (.fn "_law_path") pathSpec)
    (ge : GlobIs B "ISEOF" (.fn "ISEOF")) (gn : GlobIs B "ISNONTERMINAL" (.fn "ISNONTERMINAL")) (gp : GlobIs B "_law_path" (.fn "_law_path")) (gr : GlobIs B "range" (.ty "range")) (gl : GlobIs B "len" (.bi "len")) (gs : GlobIs B "sum" (.bi "sum"))
    (h : ∀ loc, Qr (.tup [.ref led.length, .ref (led.length + 1), .ref (led.length + 2), .lst (ap ((treeRun rs).p.getLastD []))]) ⟨loc, rowLed led r [0] (treeRun rs)⟩) (hpos : 0 < rs.length) :
    Boxd (WSs B ⟨fScope (sN 20), some (c, q), ht + 5⟩ (fBody (sN 20)) Qn Qr ⟨[("row", .ref r)], led⟩) := by
  refine ⟨?_⟩
  have hrl : r < led.length := (List.getElem?_eq_some_iff.mp hr).1
  refine s_cons ?_
  refine s_tup ?_ ?hs ?hw
  case hs => intro env he; exact rfl
  case hw => intro env he; exact rfl
  refine r_tuple ?_
  repeat top_name
  refine r_list ?_
  repeat top_name
  refine ⟨by exact Nat.zero_le _, ?_⟩
  repeat top_name
  refine r_list ?_
  repeat top_name
  refine ⟨by exact Nat.zero_le _, ?_⟩
  repeat top_name
  refine r_list ?_
  repeat top_name
  refine ⟨by exact Nat.zero_le _, ?_⟩
  repeat top_name
  refine r_list ?_
  repeat top_name
  refine ⟨by exact Nat.zero_le _, ?_⟩
  repeat top_name
  refine r_list ?_
  repeat top_name
  refine ⟨by exact Nat.zero_le _, ?_⟩
  repeat top_name
  refine ⟨by simp, ?_⟩
  refine a_tuple ?_ rfl (fun _ => rfl) (fun _ => rfl)
  refine a_name ?_
  repeat top_name
  refine a_name ?_
  repeat top_name
  refine a_name ?_
  repeat top_name
  refine a_name ?_
  repeat top_name
  refine a_name ?_
  repeat top_name
  change WSs _ _ _ _ _ _
  repeat top_name
  refine s_while (WJ rs.length fun j => ⟨treeLoc r led.length, rowLed led r (0 :: (rs.drop j).reverse) (treeRun (rs.take j))⟩) rs.length ⟨0, ar4, rfl, ?_⟩ ?_
  · have e : led.set r (.list (ai (0 :: rs.reverse))) = led := by
      apply List.ext_getElem?; intro i
      rw [List.getElem?_set]
      split
      · rename_i e; subst e; exact hr.symm
      · rfl
    simp [treeLoc, rowLed, treeRun, TS.init, ai, aPaths]
    simpa [ai] using e.symm
  · rintro n σ1 ⟨j, hj, rfl, rfl⟩ -
    obtain ⟨ok, hpl⟩ := tree_ok hrd j hj
    repeat top_name
    refine b_value ?_ (fun _ _ => rfl)
    refine r_callf ?_ (fun _ => rfl)
    refine r_global (by none_booked) ge ?_ (by none_booked)
    refine ⟨.fn _, ?_⟩
    have hrow : ∀ row t, (rowLed led r row t)[r]? = some (.list (ai row)) := fun row t => by simp [rowLed, List.getElem?_append_left, hrl]
    unfold treeLoc
    repeat top_name
    rcases Nat.lt_or_ge j rs.length with hlt | hge
    · have hs : rs[j]? = some rs[j] := List.getElem?_eq_getElem hlt
      have hdrop : rs.drop j = rs[j] :: rs.drop (j + 1) := List.drop_eq_getElem_cons hlt
      obtain ⟨hs0, hsa⟩ := hrd j _ hs
      have hrev : (0 :: (rs.drop j).reverse) = (0 :: (rs.drop (j + 1)).reverse) ++ [rs[j]] := by rw [hdrop]; simp
      have hnext : treeRun (rs.take (j + 1)) = treeStep (treeRun (rs.take j)) rs[j] := by rw [List.take_add_one, hs]; show List.foldl _ _ (_ ++ [_]) = _; rw [List.foldl_append]; rfl
      rw [hrev]
      have hrow' : (0 :: (rs.drop (j + 1)).reverse).length ≤ 61 := by simp; exact ar347 hlen
      have hfin : ∀ σ' : St, σ' = ⟨treeLoc r led.length, rowLed led r (0 :: (rs.drop (j + 1)).reverse) (treeStep (treeRun (rs.take j)) rs[j])⟩ → WJ rs.length (fun j => ⟨treeLoc r led.length, rowLed led r (0 :: (rs.drop j).reverse) (treeRun (rs.take j))⟩) (rs.length - (j + 1)) σ' :=
        fun σ' e => ⟨j + 1, hlt, rfl, by rw [hnext]; exact e⟩
      generalize rs[j] = sym at *
      generalize treeRun (rs.take j) = t at *
      generalize 0 :: (rs.drop (j + 1)).reverse = row at *
      refine ix_last (l := ai (row ++ [sym])) (x := .int sym) (.md (hrow _ _)) (by simp [ai]) ?_
      repeat top_name
      refine ⟨eofSpec, ht + 1, heof, by simp, rfl, sym, rfl, ?_⟩
      repeat top_name
      have : (sym == 0) = false := by simpa using hs0
      rw [this]
      simp only [Bool.not_false, if_true]
      repeat top_name
      refine r_meth PySem.F.plainAttrs_list PySem.F.slot_list_pop PySem.F.type_list_pop (fun _ => rfl) (fun _ => rfl) rfl ?_
      repeat top_name
      refine m_pop (l := ai row) (x := .int sym) (by rw [hrow]; simp [ai]) (by simp [ai]; exact ar348 hrow') ?_
      have hset : (rowLed led r (row ++ [sym]) t).set r (.list (ai row)) = rowLed led r row t := by
        unfold rowLed; rw [List.set_append_left _ _ (by simpa using hrl), List.set_set]
      dsimp only
      rw [hset]
      have hL : (rowLed led r row t).length = led.length + 5 := rowLed_len ..
      have hNr : NrL (rowLed led r row t) := rowLed_nr hnr
      repeat top_name
      refine s_tupsw (names := ["parts", "weight"]) ?_ (fun _ _ => rfl) (fun env he => by cases env; subst he; kernel_rfl)
      refine r_tuple ?_
      repeat top_name
      refine r_list ?_
      repeat top_name
      refine ⟨by exact Nat.zero_le _, ?_⟩
      repeat top_name
      refine ⟨by simp, _, rfl, rfl, ?_⟩
      change WSt _ _ _ _ _ _
      repeat top_name
      change WSt _ _ _ _ _ _
      repeat top_name
      change WSs _ _ _ _ _ _
      refine s_cons ?_
      refine ws_mono (P := fun σ' => ∃ x, σ' = ⟨treeLoc2 r led.length sym (weightOf sym) ++ x,
        rowLed led r row { t with pile := t.pile.take (t.pile.length - arity sym) } ++ [.list (ai (partsOf t sym))]⟩) ?_ ?_
      · repeat top_name
        refine b_value ?_ (fun _ _ => rfl)
        refine r_callf ?_ (fun _ => rfl)
        refine r_global (by none_booked) gn ?_ (by none_booked)
        refine ⟨.fn _, ?_⟩
        repeat top_name
        refine ⟨ntSpec, ht + 1, hnt, by simp, rfl, sym, rfl, ?_⟩
        repeat top_name
        by_cases hc : sym ≥ 256
        · simp only [hc, decide_true, if_true]
          have hw : weightOf sym = 2 * (sym - 12271) := by unfold weightOf; rw [if_pos hc]
          rw [hw]
          repeat top_name
          refine o_mul (by decide +kernel) ?_
          repeat top_name
          have hLe : ∀ x : List MO, (rowLed led r row t ++ x).length = led.length + 5 + x.length := fun x => by rw [List.length_append, rowLed_len]
          have hS : ∀ led', (⟨[("row", .ref r), ("weights", .ref led.length), ("gains", .ref (led.length + 1)), ("over", .ref (led.length + 2)), ("paths", .ref (led.length + 3)), ("pile", .ref (led.length + 4)), ("symbol", .int sym), ("weight", .int (2 * (sym - 12271))), ("parts", .ref (led.length + 5))], led'⟩ : St) = ⟨treeLoc2 r led.length sym (2 * (sym - 12271)), led'⟩ := fun _ => rfl
          refine s_for ?_ (fun _ _ => rfl) (.inl fun _ _ => rfl)
          refine r_callt ?_ (fun _ => rfl) (fun _ => rfl)
          refine r_global (by none_booked) gr ?_ (by none_booked)
          refine ⟨_, rfl, ?_⟩
          refine l_cons ?_ (fun _ => rfl)
          refine we_same (v := .int (arity sym : Nat)) ?_ ?_
          · repeat top_name
            refine r_tuple ?_
            repeat top_name
            refine ⟨by decide +kernel, ?_⟩
            refine c_in_tup (l := [12274, 12275]) ?_
            repeat top_name
            by_cases h3 : sym = 12274 ∨ sym = 12275
            · have e1 : ([12274, 12275] : List Int).any (· == sym) = true := by rcases h3 with rfl | rfl <;> rfl
              have e2 : arity sym = 3 := by unfold arity; rw [if_pos hc, if_pos h3]
              rw [e1, e2]
              repeat top_name
              exact ⟨rfl, rfl⟩
            · have e1 : ([12274, 12275] : List Int).any (· == sym) = false := by simp; exact ar94 h3
              have e2 : arity sym = 2 := by unfold arity; rw [if_pos hc, if_neg h3]
              rw [e1, e2]
              rw [if_neg (by simp)]
              repeat top_name
              exact ⟨rfl, rfl⟩
          repeat top_name
          refine k_range ?_
          have har := arity_le sym
          have hpk := ok.k
          refine ⟨upTo (arity sym), fun _ => True, fun i σ1 => σ1 = ⟨treeLoc2 r led.length sym (2 * (sym - 12271)), rowLed led r row { t with pile := t.pile.take (t.pile.length - i) } ++ [.list (ai (t.pile.reverse.take i))]⟩, it_rng (ar7 har), ?_, fun _ _ _ => trivial, ?_, ?_⟩
          · simp [treeLoc2, hL, ai]
          · rintro i σ1 x rfl - hx
            have hi : i < arity sym := by have := (List.getElem?_eq_some_iff.mp hx).1; simpa [upTo] using this
            unfold treeLoc2
            refine a_name ?_
            repeat top_name
            refine s_expr ?_ rfl (fun _ => rfl)
            refine r_meth PySem.F.plainAttrs_list PySem.F.slot_list_append PySem.F.type_list_append (fun _ => rfl) (fun _ => rfl) rfl ?_
            repeat top_name
            refine m_append (l₀ := ai (t.pile.reverse.take i)) rl_x (fun _ => rfl) ?_
            refine r_meth PySem.F.plainAttrs_list PySem.F.slot_list_pop PySem.F.type_list_pop (fun _ => rfl) (fun _ => rfl) rfl ?_
            repeat top_name
            have hlt' : t.pile.length - (i + 1) < t.pile.length := ar349 hsa hi
            have hpop : t.pile.take (t.pile.length - i) = t.pile.take (t.pile.length - (i + 1)) ++ [t.pile[t.pile.length - (i + 1)]] := by
              rw [show t.pile.length - i = (t.pile.length - (i + 1)) + 1 from ar350 hsa hi, List.take_add_one, List.getElem?_eq_getElem hlt']; rfl
            have hrv : t.pile.reverse.take (i + 1) = t.pile.reverse.take i ++ [t.pile[t.pile.length - (i + 1)]] := by
              rw [List.take_add_one, List.getElem?_reverse (ar3 hsa hi), show t.pile.length - 1 - i = t.pile.length - (i + 1) from ar351, List.getElem?_eq_getElem hlt']; rfl
            refine m_pop (l := ai (t.pile.take (t.pile.length - (i + 1)))) (x := .int t.pile[t.pile.length - (i + 1)]) (by rw [rl_q, ai_snoc, ← hpop]) (by simp [ai]; exact ar352 hlen hj hpl hpk) ?_
            dsimp only
            rw [rl_setq]
            refine ⟨ai (t.pile.reverse.take i), rl_x, by simp [ai]; exact ar353 hlen hj hpl hpk, ?_⟩
            dsimp only
            rw [rl_setx, ai_snoc, ← hrv]
            repeat top_name
            refine ⟨_, .names (get_pre (treeLoc2 r led.length sym (2 * (sym - 12271))) _) (.refl _), by simp [rowLed_len], rfl⟩
          · rintro σ1 rfl -
            refine s_nil ⟨[], ?_⟩
            simp [upTo, partsOf]
        · simp only [hc, decide_false]
          rw [if_neg (by simp)]
          have hw : weightOf sym = sym - 96 := by unfold weightOf; rw [if_neg hc]
          have ha0 : arity sym = 0 := by unfold arity; rw [if_neg hc]
          rw [hw]
          refine s_nil ⟨[], ?_⟩
          simp [treeLoc2, ha0, partsOf, ai, hL]
      · rintro σ' ⟨x, rfl⟩
        refine ss_wkn (.names (get_pre _ x) (.refl _)) rfl ?_
        have hpsm : ∀ x ∈ partsOf t sym, 0 ≤ x ∧ x.toNat < t.p.length := fun x hx => ok.q x (by unfold partsOf at hx; exact List.mem_reverse.mp (List.mem_of_mem_take hx))
        have hps3 : (partsOf t sym).length ≤ 3 := by have := arity_le sym; unfold partsOf; simp; exact ar354 this
        generalize hps : partsOf t sym = ps at *
        unfold treeLoc2
        repeat top_name
        refine s_for ?_ (fun _ _ => rfl) (.inl fun _ _ => rfl)
        repeat top_name
        refine ⟨ai ps, _, fun i σ1 => σ1 = ⟨treeLoc2 r led.length sym (weightOf sym), rowLed led r row { t with pile := t.pile.take (t.pile.length - arity sym), o := overSet t.p.length t.o (ps.take i) } ++ [.list (ai ps)]⟩, it_list, rfl, ?_, ?_, ?_⟩
        · rintro i σ1 rfl; exact .md rl_x
        · rintro i σ1 x rfl - hx
          obtain ⟨part, hpart, rfl⟩ : AtI ps i (fun part => .int part) x := at_map hx
          have hpm := hpsm part (List.mem_of_getElem? hpart)
          unfold treeLoc2
          refine a_name ?_
          repeat top_name
          refine s_setitem ?_ (fun _ => rfl)
          repeat top_name
          refine r_callb ?_ (fun _ => rfl) (fun _ => rfl)
          refine r_global (by none_booked) gl ?_ (by none_booked)
          refine ⟨_, rfl, ?_⟩
          repeat top_name
          refine k_len (l := aPaths t.p) (.md rl_p) (by simp [aPaths]; exact ar5 hlen hj hpl) ?_
          refine o_shl (ar0) (by simp [aPaths]; exact ar355 hlen hj hpl) (by decide +kernel) ?_
          repeat top_name
          refine set_list (l := ai (overSet t.p.length t.o (ps.take i))) rl_o hpm.1 (by simp [ai, overSet_len, ok.o]; exact ar356 hpm) (by simp [ai, overSet_len, ok.o]; exact ar5 hlen hj hpl) ?_
          dsimp only
          rw [ai_set, rl_seto]
          repeat top_name
          refine ⟨_, .names (get_pre (treeLoc2 r led.length sym (weightOf sym)) _) (.refl _), by simp [rowLed_len], ?_⟩
          have e1 : overSet t.p.length t.o (ps.take (i + 1)) = (overSet t.p.length t.o (ps.take i)).set part.toNat (2 ^ t.p.length) := by
            unfold overSet; rw [List.take_add_one, hpart, List.foldl_append]; rfl
          dsimp only
          rw [e1]
          simp [aPaths, treeLoc2]
        · rintro σ1 rfl -
          have e0 : ps.take (ai ps).length = ps := by simp [ai]
          rw [e0]
          unfold treeLoc2
          repeat top_name
          -- pile.append(len(paths))
          refine s_expr ?_ rfl (fun _ => rfl)
          refine r_meth PySem.F.plainAttrs_list PySem.F.slot_list_append PySem.F.type_list_append (fun _ => rfl) (fun _ => rfl) rfl ?_
          repeat top_name
          refine m_append rl_q (fun _ => rfl) ?_
          refine r_callb ?_ (fun _ => rfl) (fun _ => rfl)
          refine r_global (by none_booked) gl ?_ (by none_booked)
          refine ⟨_, rfl, ?_⟩
          repeat top_name
          refine k_len (l := aPaths t.p) (.md rl_p) (by simp [aPaths]; exact ar5 hlen hj hpl) ?_
          have hpk := ok.k
          refine ⟨_, rl_q, by simp [ai]; exact ar357 hlen hj hpl hpk, ?_⟩
          dsimp only
          rw [ai_snoc, rl_setq]
          dsimp only
          repeat top_name
          -- weights.append(weight)
          refine s_expr ?_ rfl (fun _ => rfl)
          refine r_meth PySem.F.plainAttrs_list PySem.F.slot_list_append PySem.F.type_list_append (fun _ => rfl) (fun _ => rfl) rfl ?_
          repeat top_name
          refine m_append rl_w (fun _ => rfl) ?_
          repeat top_name
          refine ⟨_, rl_w, by simp [ai, ok.w]; exact ar5 hlen hj hpl, ?_⟩
          dsimp only
          rw [ai_snoc, rl_setw]
          dsimp only
          repeat top_name
          -- gains.append(sum([weights[part] for part in parts]))
          refine s_expr ?_ rfl (fun _ => rfl)
          refine r_meth PySem.F.plainAttrs_list PySem.F.slot_list_append PySem.F.type_list_append (fun _ => rfl) (fun _ => rfl) rfl ?_
          repeat top_name
          refine m_append rl_g (fun _ => rfl) ?_
          refine r_callb ?_ (fun _ => rfl) (fun _ => rfl)
          refine r_global (by none_booked) gs ?_ (by none_booked)
          refine ⟨_, rfl, ?_⟩
          refine l_cons ?_ (fun _ => rfl)
          refine r_comp treeCF_ok ?_ (fun _ _ => rfl)
          repeat top_name
          refine ⟨ai (ps.map fun q => t.w.getD q.toNat 0), ai ps, _, [("weights", .ref led.length)], ⟨it_list, .md rl_x, by simp [ai], by simp [ai]; exact ar7 hps3, ?_, (fun e => by cases e), ?_, ?_⟩, ?_⟩
          · intro x av e
            have := get_mem e
            simp at this
            obtain ⟨rfl, rfl⟩ := this
            exact ⟨by dsimp only; decide +kernel, by one_sign⟩
          · intro _ x av hx e
            have h1 : ∀ p ∈ (fScope (sN 20)).names, p.2 = .cell → p.1 = "weights" := by decide +kernel
            have := h1 _ (mem_of_lookup' hx) rfl
            dsimp only at this
            subst this
            rw [get_tl (nm (by decide)) (get_hd (v := AV.ref led.length))] at e
            cases e
            exact get_hd
          · intro k x y hx hy
            obtain ⟨part, hpart, rfl⟩ : AtI ps k (fun part => .int part) x := at_map hx
            have hpm := hpsm part (List.mem_of_getElem? hpart)
            obtain rfl : y = .int (t.w.getD part.toNat 0) := by simp [ai, hpart] at hy; rw [← hy]; simp
            refine a_name ?_
            refine w_store (cf_part _) (by leaf_len) ?_
            refine r_sub ?_ (fun _ _ => rfl)
            refine r_cell (cf_weights _) get_hd ?_ (by decide +kernel)
            refine r_local (cf_part _) (by one_sign) ?_ (by decide +kernel)
            have hw := ok.w
            refine ix_list (l := ai (t.w ++ [weightOf sym])) (x := .int (t.w.getD part.toNat 0)) (.md rl_w) hpm.1 (ar358 hlen hj hpl hpm) ?_ ⟨rfl, rfl, get_pre _ _⟩
            have : part.toNat < t.w.length := ar359 hpm hw
            simp [ai, List.getElem?_append_left, this, List.getD_eq_getElem?_getD]
          · repeat top_name
            refine k_sum (.fz _) ?_
            refine ⟨_, rl_g, by simp [ai, ok.g]; exact ar5 hlen hj hpl, ?_⟩
            dsimp only
            rw [ai_snoc, rl_setg]
            dsimp only
            repeat top_name
            -- over.append(0)
            refine s_expr ?_ rfl (fun _ => rfl)
            refine r_meth PySem.F.plainAttrs_list PySem.F.slot_list_append PySem.F.type_list_append (fun _ => rfl) (fun _ => rfl) rfl ?_
            repeat top_name
            refine m_append rl_o (fun _ => rfl) ?_
            repeat top_name
            refine ⟨_, rl_o, by simp [ai, overSet_len, ok.o]; exact ar5 hlen hj hpl, ?_⟩
            dsimp only
            rw [ai_snoc, rl_seto]
            dsimp only
            repeat top_name
            -- paths.append(_law_path(paths, parts, weight))
            refine s_expr ?_ rfl (fun _ => rfl)
            refine r_meth PySem.F.plainAttrs_list PySem.F.slot_list_append PySem.F.type_list_append (fun _ => rfl) (fun _ => rfl) rfl ?_
            repeat top_name
            refine m_append rl_p (fun _ => rfl) ?_
            refine r_callf ?_ (fun _ => rfl)
            refine r_global (by none_booked) gp ?_ (by none_booked)
            refine ⟨.fn _, ?_⟩
            repeat top_name
            refine ⟨pathSpec, ht + 5, hpath, Nat.le_refl _, rfl, _, _, t.p, ps, weightOf sym, rfl, .md rl_p, .md rl_x, hpsm, fun p hp => by have := ok.l p hp; exact ar360 hlen hj hpl this, hps3, (ar361 hlen hj hpl), (rowLed_nr hnr).app (.of (by simp [nrM, nr_ai])), ?_⟩
            refine ⟨_, rl_p, by simp [aPaths]; exact ar5 hlen hj hpl, ?_⟩
            dsimp only
            rw [aP_snoc, rl_setp]
            dsimp only
            repeat top_name
            refine ⟨rs.length - (j + 1), ⟨treeLoc r led.length, _⟩, (ar80 hlt), wkn_cut (loc := treeLoc r led.length) (x := [("symbol", .int sym), ("weight", .int (weightOf sym)), ("parts", .ref (led.length + 5))]) (rowLed_nr hnr) ?_, by simp [rowLed_len], hfin _ ?_⟩
            · intro p hp
              rw [rowLed_len]
              simp [treeLoc] at hp
              rcases hp with rfl | rfl | rfl | rfl | rfl | rfl <;> simp [low] <;> exact ar362 hrl
            · simp [treeStep, hps, aPaths]
    · have hj' : j = rs.length := ar30 hj hge
      subst hj'
      have e1 : (0 :: (rs.drop rs.length).reverse : List Int) = [0] := by simp
      have e2 : rs.take rs.length = rs := List.take_length
      rw [e1, e2]
      refine ix_last (l := ai [0]) (x := .int 0) (.md (hrow _ _)) rfl ?_
      repeat top_name
      refine ⟨eofSpec, ht + 1, heof, by simp, rfl, 0, rfl, ?_⟩
      repeat top_name
      simp only [beq_self_eq_true, Bool.not_true]
      rw [if_neg (by simp)]
      repeat top_name
      refine r_tuple ?_
      repeat top_name
      have hlast : (aPaths (treeRun rs).p).getLast? = some (.lst (ap ((treeRun rs).p.getLastD []))) := by
        rw [e2] at hpl
        generalize (treeRun rs).p = p at *
        cases p with
        | nil => simp at hpl; omega
        | cons a b => unfold aPaths; rw [List.getLast?_map, List.getLast?_cons, List.getLastD_cons, List.getLastD_eq_getLast?]; rfl
      refine ix_last (l := aPaths (treeRun rs).p) (.md ?_) hlast ?_
      · have := rl_p (led := led) (ext := []) (r := r) (row := [0]) (t := treeRun rs); simpa using this
      repeat top_name
      refine ⟨by simp, h _⟩
end
section
open PySem PySem.W PyProof.Rows PySem.SeqAt
set_option Elab.async false
set_option linter.unusedVariables false
set_option linter.unnecessarySimpa false
set_option linter.unusedSimpArgs false
set_option maxRecDepth 100000
variable {B : Base} {F : Frm} {σ : St} {Q : AV → St → Prop} {Qn : St → Prop} {Qr : AV → St → Prop}
/-- the tree's contract -/
inductive treeSpec (args : List AV) (kws : List (Str × AV)) (led : List MO) (Q : AV → List MO → Prop) : Prop
  | mk : kws = [] → ∀ r rs w g o path, args = [.ref r] → led[r]? = some (.list (ai (0 :: rs.reverse))) → NrL led → Reads2 rs → rs.length ≤ 60 → 0 < rs.length → (treeRun rs).w = w → (treeRun rs).g = g → (treeRun rs).o = o → (treeRun rs).p.getLastD [] = path → Q (.tup [.lst (ai w), .lst (ai g), .lst (ai o), .lst (ap path)]) (led.set r (.list (ai [0]))) → treeSpec args kws led Q
theorem rw_frz {r r' : AV} {led : List MO} {i : Nat} {l : List AV} {led'} (h : led[i]? = some (.list l)) (e : sb i l r = r') {r'' : AV} (g : RW r' (led.set i .gone) r'' led') : RW r led r'' led' := .frz h (e ▸ g)
theorem tree_spec {c ht} (D : Def B "_law_tree" 20 c NoD)
    (heof : SpecOK B (ht + 1) (.fn "ISEOF") eofSpec) (hnt : SpecOK B (ht + 1) (.fn "ISNONTERMINAL") ntSpec) (hpath : SpecOK B (ht + 5) (.fn "_law_path") pathSpec)
    (ge : GlobIs B "ISEOF" (.fn "ISEOF")) (gn : GlobIs B "ISNONTERMINAL" (.fn "ISNONTERMINAL")) (gp : GlobIs B "_law_path" (.fn "_law_path")) (gr : GlobIs B "range" (.ty "range")) (gl : GlobIs B "len" (.bi "len")) (gs : GlobIs B "sum" (.bi "sum")) :
    SpecOK B (ht + 6) (.fn "_law_tree") treeSpec := by
  refine spec_defC D (by decide +kernel) (by decide +kernel) (by decide +kernel) (by decide +kernel) (by decide +kernel) (fun _ _ _ _ h => h.1) ?_
  intro Z φ E s vs args led Q name dV kV doc pm an ct hP I rv ⟨_, r, rs, _, _, _, _, ha, hr, hnr, hrd, hlen, hpos, rfl, rfl, rfl, rfl, hq⟩
  obtain ⟨rfl, rfl⟩ := hP
  subst ha
  replace rv := rv.cons_i; obtain ⟨v1, _, rfl, r1, rv⟩ := rv
  obtain rfl := rv.nil_i
  refine ⟨[("row", v1)], [("row", .ref r)], rfl, .cons r1 .nil, nd_names ["row"] (by decide +kernel) rfl, loc_names ["row"] (by decide +kernel) rfl, ?_⟩
  have fin : ∀ loc, Aft Q led (.tup [.ref led.length, .ref (led.length + 1), .ref (led.length + 2), .lst (ap ((treeRun rs).p.getLastD []))]) (St.mk loc (rowLed led r [0] (treeRun rs))).led := ?_
  · have key := tree_walk (B := B) (c := c) (q := Str.ofString "_law_tree" ++ ".<locals>.") (ht := ht) (r := r) (rs := rs) (led := led) (Qn := fun σ' => AftN Q led σ'.led)
      (Qr := fun r σ' => Aft Q led r σ'.led) hr hnr hrd hlen heof hnt hpath ge gn gp gr gl gs fin hpos
    with_reducible exact Boxd.get key
  intro loc
  refine ⟨_, _, ?_, ?_, hq⟩
  · generalize treeRun rs = t
    have hL := rowLed_len led r [0] t
    refine rw_frz (i := led.length) (l := ai t.w) (r' := .tup [.lst (ai t.w), .ref (led.length + 1), .ref (led.length + 2), .lst (ap (t.p.getLastD []))]) (by simp [rowLed]) (by simp [sb, sb1]) ?_
    refine rw_frz (i := led.length + 1) (l := ai t.g) (r' := .tup [.lst (ai t.w), .lst (ai t.g), .ref (led.length + 2), .lst (ap (t.p.getLastD []))]) (by simp [rowLed, List.getElem?_append, List.getElem?_set]) (by simp [sb, sb1]) ?_
    refine rw_frz (i := led.length + 2) (l := ai t.o) (r' := .tup [.lst (ai t.w), .lst (ai t.g), .lst (ai t.o), .lst (ap (t.p.getLastD []))]) (by simp [rowLed, List.getElem?_append, List.getElem?_set]) (by simp [sb, sb1]) ?_
    have e : (((rowLed led r [0] t).set led.length .gone).set (led.length + 1) .gone).set (led.length + 2) .gone = led.set r (.list (ai [0])) ++ [.gone, .gone, .gone, .list (aPaths t.p), .list (ai t.pile)] := by
      simp [rowLed, List.set_append]
    rw [e]
    exact rw_cut (hnr.set (m := .list (ai [0])) (nr_ai _)) (by simp [nr, nrs, nr_ai, ap, nrs_map])
  · simp
end
section
open PySem PySem.W PyProof.Rows PySem.SeqAt
set_option Elab.async false
set_option linter.unusedVariables false
set_option linter.unnecessarySimpa false
set_option linter.unusedSimpArgs false
set_option maxRecDepth 100000
variable {B : Base} {F : Frm} {σ : St} {Q : AV → St → Prop} {Qn : St → Prop} {Qr : AV → St → Prop}
/-- a comprehension that borrows no cell -/
theorem compfrm0 {scope : Scope} {target : Expr} (hf : ∀ x ∈ scope.names, x.2 ≠ .free) (hc : ∀ x ∈ scope.names, x.2 ≠ .cell) (hk : scope.kind = .function) (hn : ∀ x ∈ scope.names, x.2 = .local → scope.names.lookup x.1 = some .local)
    (ht : (∀ it v, letOwnedTupleGo target it v = pure ()) ∨ ∃ ts k p, target = .Tuple ts k p) : CompFrm F ⟨scope, none, F.ht⟩ false scope target where
  clos := fun env _ => closureFor_none hf
  rel := fun env _ => by
    show relabel scope env = scope
    unfold relabel
    have : (scope.names.map fun (n, k) => if (k == NameKind.free && env.scope.kind == .function && env.kindOf n == some .cell) then (n, NameKind.cell) else (n, k)) = scope.names := map_eq_self fun x hx => by
      obtain ⟨n, k⟩ := x
      have : (k == NameKind.free) = false := by simpa using hf _ hx
      simp [this]
    rw [this]
  kind := hk
  kind' := hk
  code := rfl
  ht := rfl
  nocell := hc
  names := hn
  c1 := fun x hx => absurd rfl (hc _ (mem_of_lookup' hx))
  c2 := fun h => by cases h
  c3 := by show List.map _ (cellsFrom 0 scope.names []) = _; rw [cellsFrom_none _ _ _ hc]; rfl
  tg := ht

def symOf (S7 S1 : Int → Bool) (ks : List Int) (vs : List Str) (c : Nat) : Option (List Int) :=
  if S7 c then some [(c : Int)] else if S1 c then some [] else (b3Of ks vs c).map fun s => s.cps.toList.map Int.ofNat
inductive symSpec (S7 S1 : Int → Bool) (ks : List Int) (vs : List Str) (args : List AV) (kws : List (Str × AV)) (led : List MO) (Q : AV → List MO → Prop) : Prop
  | mk : kws = [] → ∀ (cs : List Nat) (ls : List (List Int)), args = [.str ⟨cs.toArray⟩] → cs.length ≤ 1000 → cs.map (symOf S7 S1 ks vs) = ls.map some → (∀ l ∈ ls, l.length ≤ 100) → Q (.ref led.length) (led ++ [.list (ai (0 :: ls.flatten))]) → symSpec S7 S1 ks vs args kws led Q

theorem sym_walk {c q ht S7 S1 ks vs} {cs : List Nat} {ls : List (List Int)} {led : List MO} (hcs : cs.length ≤ 1000) (hm : cs.map (symOf S7 S1 ks vs) = ls.map some) (hl : ∀ l ∈ ls, l.length ≤ 100)
    (h7 : SpecOK B (ht + 1) (.fn "in_table_c7") (ordSpec S7)) (h1 : SpecOK B (ht + 1) (.fn "in_table_b1") (ordSpec S1)) (h3 : SpecOK B (ht + 1) (.fn "map_table_b3") (b3Spec ks vs))
    (g7 : GlobIs B "in_table_c7" (.fn "in_table_c7")) (g1 : GlobIs B "in_table_b1" (.fn "in_table_b1")) (g3 : GlobIs B "map_table_b3" (.fn "map_table_b3")) (go : GlobIs B "ord" (.bi "ord"))
    (h : ∀ loc, Qr (.ref led.length) ⟨loc, led ++ [.list (ai (0 :: ls.flatten))]⟩) :
    Boxd (WSs B ⟨fScope (sN 17), some (c, q), ht + 1⟩ (fBody (sN 17)) Qn Qr ⟨[("page", .str ⟨cs.toArray⟩)], led⟩) := by
  refine ⟨?_⟩
  have hll : ls.length = cs.length := by have := congrArg List.length hm; simpa using this.symm
  have hfl : ∀ j, (ls.take j).flatten.length ≤ 100 * j := fun j => by
    induction j with
    | zero => simp
    | succ j ih =>
      rw [List.take_add_one, List.flatten_append, List.length_append]
      cases e : ls[j]? with
      | none => show _ + 0 ≤ _; exact ar340 ih
      | some l =>
        have := hl l (List.mem_of_getElem? e)
        have e2 : ((some l).toList.flatten).length = l.length := by simp
        exact ar341 ih this e2
  refine s_cons ?_
  repeat top_name
  refine r_list ?_
  repeat top_name
  refine ⟨by exact Nat.succ_pos _, ?_⟩
  repeat top_name
  refine s_for ?_ (fun _ _ => rfl) (.inl fun _ _ => rfl)
  repeat top_name
  refine ⟨chars ⟨cs.toArray⟩, fun _ => True, fun j σ1 => σ1 = ⟨[("page", .str ⟨cs.toArray⟩), ("row", .ref led.length)], led ++ [.list (ai (0 :: (ls.take j).flatten))]⟩, it_str, by rfl, fun _ _ _ => trivial, ?_, ?_⟩
  · rintro j σ1 x rfl - hx
    obtain ⟨cc, hcc, rfl⟩ : ∃ cc, cs[j]? = some cc ∧ x = .str ⟨#[cc]⟩ := by
      simp only [chars, List.getElem?_map] at hx
      cases e : cs[j]? with
      | none => simp [e] at hx
      | some q => simp [e] at hx; exact ⟨q, rfl, hx.symm⟩
    have hj : j < ls.length := by have := (List.getElem?_eq_some_iff.mp hcc).1; exact ar12 hll this
    have hlj : ls[j]? = some ls[j] := List.getElem?_eq_getElem hj
    have hsym : symOf S7 S1 ks vs cc = some ls[j] := by
      have := congrArg (fun z : List (Option (List Int)) => z[j]?) hm
      simpa [hcc, hj] using this
    have hnext : (ls.take (j + 1)).flatten = (ls.take j).flatten ++ ls[j] := by rw [List.take_add_one, hlj, List.flatten_append]; simp only [Option.toList_some, List.flatten_singleton]
    have hlen := hfl j
    have hl100 := hl ls[j] (List.getElem_mem hj)
    generalize ls[j] = l at *
    generalize (ls.take j).flatten = acc at *
    refine a_name ?_
    repeat top_name
    refine b_value ?_ (fun _ _ => rfl)
    refine r_callf ?_ (fun _ => rfl)
    refine r_global (by none_booked) g7 ?_ (by none_booked)
    refine ⟨.fn _, ?_⟩
    repeat top_name
    refine ⟨ordSpec S7, ht + 1, h7, Nat.le_refl _, rfl, cc, rfl, ?_⟩
    repeat top_name
    unfold symOf at hsym
    by_cases c7 : S7 cc = true
    · rw [c7] at hsym ⊢
      simp only [if_true] at hsym ⊢
      cases hsym
      repeat top_name
      refine s_expr ?_ rfl (fun _ => rfl)
      refine r_meth PySem.F.plainAttrs_list PySem.F.slot_list_append PySem.F.type_list_append (fun _ => rfl) (fun _ => rfl) rfl ?_
      repeat top_name
      refine m_append get_last (fun _ => rfl) ?_
      refine r_callb ?_ (fun _ => rfl) (fun _ => rfl)
      refine r_global (by none_booked) go ?_ (by none_booked)
      refine ⟨_, rfl, ?_⟩
      repeat top_name
      refine k_ord ?_
      refine ⟨_, get_last, by simp [ai]; exact ar342 hcs hll hj hlen, ?_⟩
      dsimp only
      rw [set_last]
      repeat top_name
      refine ⟨_, .names (get_pre [("page", .str ⟨cs.toArray⟩), ("row", .ref led.length)] _) (.refl _), by simp, ?_⟩
      dsimp only
      rw [hnext]; simp [ai]
    · have c7' : S7 cc = false := by simpa using c7
      rw [c7'] at hsym ⊢
      simp only [Bool.false_eq_true, if_false] at hsym ⊢
      repeat top_name
      refine b_value ?_ (fun _ _ => rfl)
      refine r_callf ?_ (fun _ => rfl)
      refine r_global (by none_booked) g1 ?_ (by none_booked)
      refine ⟨.fn _, ?_⟩
      repeat top_name
      refine ⟨ordSpec S1, ht + 1, h1, Nat.le_refl _, rfl, cc, rfl, ?_⟩
      repeat top_name
      by_cases c1 : S1 cc = true
      · rw [c1] at hsym ⊢
        simp only [if_true, Bool.not_true, Bool.false_eq_true, if_false] at hsym ⊢
        cases hsym
        repeat top_name
        refine ⟨_, .names (get_pre [("page", .str ⟨cs.toArray⟩), ("row", .ref led.length)] _) (.refl _), by simp, ?_⟩
        dsimp only
        rw [hnext]; simp
      · have c1' : S1 cc = false := by simpa using c1
        rw [c1'] at hsym ⊢
        simp only [Bool.false_eq_true, if_false, Bool.not_false, if_true] at hsym ⊢
        obtain ⟨s3, hb3, rfl⟩ := Option.map_eq_some_iff.mp hsym
        repeat top_name
        refine s_expr ?_ rfl (fun _ => rfl)
        refine r_meth PySem.F.plainAttrs_list PySem.F.slot_list_extend PySem.F.type_list_extend (fun _ => rfl) (fun _ => rfl) rfl ?_
        repeat top_name
        refine m_extend get_last (fun _ => rfl) ?_
        refine r_comp (compfrm0 (by decide +kernel) (by decide +kernel) (by simp only []) (by decide +kernel) (.inl fun _ _ => rfl)) ?_ (fun _ _ => rfl)
        refine r_callf ?_ (fun _ => rfl)
        refine r_global (by none_booked) g3 ?_ (by none_booked)
        refine ⟨.fn _, ?_⟩
        repeat top_name
        refine ⟨b3Spec ks vs, ht + 1, h3, Nat.le_refl _, rfl, cc, s3, rfl, hb3, ?_⟩
        have hs3 : s3.cps.size ≤ 100 := by simpa using hl100
        refine ⟨ai (s3.cps.toList.map Int.ofNat), chars s3, fun _ => True, [], ⟨it_str, trivial, by simp [ai, chars], by simp [chars]; exact ar46 hs3, (fun x av e => by cases e), fun _ => rfl, (fun e => by cases e), ?_⟩, ?_⟩
        · intro k x y hx hy
          obtain ⟨n, hn, rfl⟩ : ∃ n, s3.cps[k]? = some n ∧ x = .str ⟨#[n]⟩ := by
            simp only [chars, List.getElem?_map] at hx
            cases e : s3.cps[k]? with
            | none => simp [e] at hx
            | some q => simp [e] at hx; exact ⟨q, rfl, hx.symm⟩
          obtain rfl : y = .int (n : Nat) := by simp [ai, hn] at hy; exact hy.symm
          refine a_name ?_
          refine w_store (by none_booked) (by leaf_len) ?_
          refine r_callb ?_ (fun _ => rfl) (fun _ => rfl)
          refine r_global (by none_booked) go ?_ (by none_booked)
          refine ⟨_, rfl, ?_⟩
          repeat top_name
          refine k_ord ?_
          exact ⟨rfl, rfl, fun z av e => by cases e⟩
        · refine ⟨_, _, get_last, .fz _, by simp, by simp [ai]; exact ar343 hcs hll hj hlen hs3, ?_⟩
          dsimp only
          rw [set_last]
          repeat top_name
          refine ⟨_, .names (get_pre [("page", .str ⟨cs.toArray⟩), ("row", .ref led.length)] _) (.refl _), by simp, ?_⟩
          dsimp only
          rw [hnext]; simp [ai]
  · rintro σ1 rfl -
    have e : ls.take (chars ⟨cs.toArray⟩).length = ls := by rw [List.take_of_length_le]; simp [chars]; exact ar93 hll
    rw [e]
    repeat top_name
    exact h _
theorem sym_ok {c ht S7 S1 ks vs} (D : Def B "_law_symbols" 17 c NoD)
    (h7 : SpecOK B (ht + 1) (.fn "in_table_c7") (ordSpec S7)) (h1 : SpecOK B (ht + 1) (.fn "in_table_b1") (ordSpec S1)) (h3 : SpecOK B (ht + 1) (.fn "map_table_b3") (b3Spec ks vs))
    (g7 : GlobIs B "in_table_c7" (.fn "in_table_c7")) (g1 : GlobIs B "in_table_b1" (.fn "in_table_b1")) (g3 : GlobIs B "map_table_b3" (.fn "map_table_b3")) (go : GlobIs B "ord" (.bi "ord")) :
    SpecOK B (ht + 2) (.fn "_law_symbols") (symSpec S7 S1 ks vs) := by
  refine spec_def D (by decide +kernel) (by decide +kernel) (by decide +kernel) (by decide +kernel) ?_
  intro Z φ E s vs' ks' args kws led Q name dV kV doc pm an ct hP I rv rk ⟨hkw, cs, ls, ha, hcs, hm, hl, hq⟩
  obtain ⟨rfl, rfl⟩ := hP
  subst hkw ha
  obtain rfl := rk.nil_i
  replace rv := rv.cons_i; obtain ⟨v1, _, rfl, r1, rv⟩ := rv
  obtain rfl := rv.nil_i
  refine ⟨[("page", v1)], [("page", .str ⟨cs.toArray⟩)], .of_eq rfl, .cons r1 .nil, nd_names ["page"] (by decide +kernel) rfl, loc_names ["page"] (by decide +kernel) rfl, ?_⟩
  have key := sym_walk (B := B) (c := c) (q := Str.ofString "_law_symbols" ++ ".<locals>.") (ht := ht) (led := led) (Qn := fun σ' => AftN Q led σ'.led)
    (Qr := fun r σ' => Aft Q led r σ'.led) hcs hm hl h7 h1 h3 g7 g1 g3 go (fun loc => ⟨_, _, .refl _ _, by simp, hq⟩)
  with_reducible exact Boxd.get key
end
section
open PySem PySem.W PyProof.Rows PySem.SeqAt
set_option Elab.async false
set_option linter.unusedVariables false
set_option linter.unnecessarySimpa false
set_option linter.unusedSimpArgs false
set_option maxRecDepth 100000
variable {B : Base} {F : Frm} {σ : St} {Q : AV → St → Prop} {Qn : St → Prop} {Qr : AV → St → Prop}
/-! ### _law_page, plain -/
structure PS where
  s : List Int
  t : List Int
  a : Int
  l : Int
def b1L : List Int := [173, 847, 6150, 6155, 6156, 6157, 8203, 8204, 8205, 8288, 65279]
def ligL : List Int := [64256, 64257, 64258, 64259, 64260, 64262]
def ligS : List (List Nat) := [[102, 102], [102, 105], [102, 108], [102, 102, 105], [102, 102, 108], [115, 116]]
def alpL : List Int := [65, 119808, 119860, 119912, 120016, 120172, 120224, 120276, 120328, 120380, 120432]
def pageStep (p : PS) (x : Int) : PS :=
  let kind := x % 8
  let which := x / 8
  if kind = 0 then { p with s := p.s ++ [if which % 27 < 11 then b1L.getD (which % 27).toNat 0 else 65013 + which % 27] }
  else if kind < 5 then
    let sign := 12272 + which % 12
    let more : Int := if sign = 12274 ∨ sign = 12275 then 2 else 1
    if p.a > 0 ∧ p.l + p.a + more ≤ 5 then ⟨p.s ++ [sign], p.t ++ [sign], p.a + more, p.l⟩ else p
  else if kind = 5 then
    let m := ligS.getD (which % 6).toNat []
    if (m.length : Int) ≤ p.a then ⟨p.s ++ [ligL.getD (which % 6).toNat 0], p.t ++ m.map Int.ofNat, p.a - m.length, p.l + m.length⟩ else p
  else if p.a > 0 then ⟨p.s ++ [alpL.getD (which / 26 % 11).toNat 0 + which % 26], p.t ++ [97 + which % 26], p.a - 1, p.l + 1⟩
  else p
def pageRun (xs : List Int) : PS := xs.foldl pageStep ⟨[12276], [12276], 2, 0⟩
def drawnOf (script : List Int) : List Int := (script.take 9).map (· % 1000000) ++ ([8, 190, 17, 45, 223, 41, 13, 78, 6] : List Int).drop (script.take 9).length
def signsOf (p : PS) : List Int := p.s ++ List.replicate p.a.toNat 71
def toldOf (p : PS) : List Int := p.t ++ List.replicate p.a.toNat 103
structure PageOk (p : PS) (n : Nat) : Prop where
  s : p.s.length ≤ 1 + n
  t : p.t.length ≤ 1 + 3 * n
  a0 : 0 ≤ p.a
  l0 : 0 ≤ p.l
  al : p.l + p.a ≤ 5
  ch : ∀ c ∈ p.s, 0 ≤ c ∧ c ≤ 0x10FFFF
theorem getD_bd {l : List Int} {M : Int} (h : ∀ x ∈ l, 0 ≤ x ∧ x ≤ M) (hM : 0 ≤ M) (i : Nat) : 0 ≤ l.getD i 0 ∧ l.getD i 0 ≤ M := by
  rw [List.getD_eq_getElem?_getD]
  cases e : l[i]? with
  | none => exact ⟨Int.le_refl _, hM⟩
  | some x => exact h x (List.mem_of_getElem? e)
theorem ligS_len (i : Nat) : (ligS.getD i []).length ≤ 3 := by
  rw [List.getD_eq_getElem?_getD]
  cases e : ligS[i]? with
  | none => simp
  | some x =>
    have : ∀ y ∈ ligS, y.length ≤ 3 := by decide
    exact this x (List.mem_of_getElem? e)
theorem pageStep_ok {p : PS} {n : Nat} (h : PageOk p n) {x : Int} (hx : 0 ≤ x) : PageOk (pageStep p x) (n + 1) := by
  obtain ⟨h1, h2, h3, h4, h5, h6⟩ := h
  have same : PageOk p (n + 1) := ⟨(ar393 h1), (ar102 h2), h3, h4, h5, h6⟩
  have app : ∀ {y : Int}, 0 ≤ y → y ≤ 0x10FFFF → ∀ c ∈ p.s ++ [y], 0 ≤ c ∧ c ≤ 0x10FFFF := fun a b c hc => by
    rcases List.mem_append.mp hc with q | q
    · exact h6 c q
    · simp at q; subst q; exact ⟨a, b⟩
  unfold pageStep
  dsimp only
  split
  · refine ⟨by simp; exact ar19 h1, by simp; exact ar102 h2, h3, h4, h5, ?_⟩
    dsimp only
    split
    · have := getD_bd (l := b1L) (M := 65279) (by decide +kernel) (by constructor) (x / 8 % 27).toNat
      exact app this.1 (ar103 this)
    · exact app (ar394) (ar395)
  · split
    · obtain ⟨more, em, hm⟩ : ∃ more : Int, (if 12272 + x / 8 % 12 = 12274 ∨ 12272 + x / 8 % 12 = 12275 then (2 : Int) else 1) = more ∧ 1 ≤ more := by
        split
        · exact ⟨2, rfl, by decide⟩
        · exact ⟨1, rfl, by decide⟩
      rw [em]
      split
      · rename_i hc
        refine ⟨by simp; exact ar19 h1, by simp; exact ar104 h2, ?_, h4, ?_, app (ar396) (ar397)⟩
        · dsimp only; lia
        · dsimp only; exact ar399 hc
      · exact same
    · split
      · split
        · rename_i hc
          have g := ligS_len (x / 8 % 6).toNat
          generalize ligS.getD (x / 8 % 6).toNat [] = m at *
          refine ⟨by simp; exact ar19 h1, by simp; exact ar400 h2 g, by dsimp only; exact ar401 hc, by dsimp only; exact ar402 h4, by dsimp only; exact ar403 h5, ?_⟩
          have := getD_bd (l := ligL) (M := 65279) (by decide +kernel) (by constructor) (x / 8 % 6).toNat
          exact app this.1 (ar103 this)
        · exact same
      · split
        · have := getD_bd (l := alpL) (M := 120432) (by decide +kernel) (by constructor) (x / 8 / 26 % 11).toNat
          refine ⟨by simp; exact ar19 h1, by simp; exact ar104 h2, by dsimp only; exact ar404 (by assumption), by dsimp only; exact ar405 h4, by dsimp only; exact ar406 h5, app (ar407 this) (ar408 this)⟩
        · exact same
theorem pageRun_ok : ∀ (xs : List Int), (∀ x ∈ xs, 0 ≤ x) → PageOk (pageRun xs) xs.length := by
  intro xs
  unfold pageRun
  have : ∀ (xs : List Int) (p : PS) (n : Nat), PageOk p n → (∀ x ∈ xs, 0 ≤ x) → PageOk (xs.foldl pageStep p) (n + xs.length) := by
    intro xs
    induction xs with
    | nil => intro p n h _; assumption
    | cons x r ih =>
      intro p n h hx
      have := ih (pageStep p x) (n + 1) (pageStep_ok h (hx x List.mem_cons_self)) fun y hy => hx y (List.mem_cons_of_mem _ hy)
      simpa [Nat.add_assoc, Nat.add_comm 1] using this
  intro hx
  have := this xs ⟨[12276], [12276], 2, 0⟩ 0 ⟨by exact Nat.succ_pos _, by exact Nat.succ_pos _, by constructor, by constructor, by constructor, by decide +kernel⟩ hx
  simpa using this
end
section
open PySem PySem.W PyProof.Rows PySem.SeqAt
set_option Elab.async false
set_option linter.unusedVariables false
set_option linter.unnecessarySimpa false
set_option linter.unusedSimpArgs false
set_option maxRecDepth 100000
variable {B : Base} {F : Frm} {σ : St} {Q : AV → St → Prop} {Qn : St → Prop} {Qr : AV → St → Prop}
inductive pageSpec (args : List AV) (kws : List (Str × AV)) (led : List MO) (Q : AV → List MO → Prop) : Prop
  | mk : kws = [] → ∀ a script, args = [a] → LstOf led a (ai script) → script.length ≤ 1000000 → NrL led → Q (.tup [.str ⟨((signsOf (pageRun (drawnOf script))).map Int.toNat).toArray⟩, .lst (ai (toldOf (pageRun (drawnOf script))))]) led → pageSpec args kws led Q
theorem lig_eq : [AV.str "ff", .str "fi", .str "fl", .str "ffi", .str "ffl", .str "st"] = ligS.map fun m => AV.str ⟨m.toArray⟩ := by
  have h1 : Str.ofString "ff" = ⟨#[102, 102]⟩ := by rfl
  have h2 : Str.ofString "fi" = ⟨#[102, 105]⟩ := by rfl
  have h3 : Str.ofString "fl" = ⟨#[102, 108]⟩ := by rfl
  have h4 : Str.ofString "ffi" = ⟨#[102, 102, 105]⟩ := by rfl
  have h5 : Str.ofString "ffl" = ⟨#[102, 102, 108]⟩ := by rfl
  have h6 : Str.ofString "st" = ⟨#[115, 116]⟩ := by rfl
  rw [h1, h2, h3, h4, h5, h6]; rfl
def pageLoc (a : AV) (ds : List Int) (L : Nat) (p : PS) : List (Str × AV) := [("script", a), ("drawn", .lst (ai ds)), ("signs", .ref L), ("told", .ref (L + 1)), ("awaited", .int p.a), ("letters", .int p.l)]
set_option maxHeartbeats 4000000 in
theorem page_walk {c q ht a} {script : List Int} {led : List MO} (ha : LstOf led a (ai script)) (hz : script.length ≤ 1000000)
    (gl : GlobIs B "len" (.bi "len")) (go : GlobIs B "ord" (.bi "ord")) (gc : GlobIs B "chr" (.bi "chr"))
    (h : ∀ loc, Qr (.tup [.str ⟨((signsOf (pageRun (drawnOf script))).map Int.toNat).toArray⟩, .ref (led.length + 1)]) ⟨loc, led ++ [.list (ai (signsOf (pageRun (drawnOf script)))), .list (ai (toldOf (pageRun (drawnOf script))))]⟩) :
    Boxd (WSs B ⟨fScope (sN 16), some (c, q), ht + 1⟩ (fBody (sN 16)) Qn Qr ⟨[("script", a)], led⟩) := by
  refine ⟨?_⟩
  refine s_cons ?_
  refine s_assign_comp (compfrm0 (by decide +kernel) (by decide +kernel) (by simp only []) (by decide +kernel) (.inl fun _ _ => rfl)) (fun env he => by cases env; subst he; kernel_rfl) ?_ (fun _ _ => rfl)
  repeat top_name
  refine ⟨ai script, 9, ha, rfl, by constructor, by simp [ai]; exact hz, ?_⟩
  refine ⟨ai ((script.take 9).map (· % 1000000)), ai (script.take 9), _, [], ⟨it_list, ?_, by simp [ai], by simp [ai]; exact ar108, (fun x av e => by cases e), fun _ => rfl, (fun e => by cases e), ?_⟩, ?_⟩
  · have : (ai script).take (9 : Int).toNat = ai (script.take 9) := by simp [ai]
    rw [this]; exact .fz _
  · intro k x y hx hy
    obtain ⟨n, hn, rfl⟩ : AtI (script.take 9) k (fun n => .int n) x := at_map hx
    obtain rfl : y = .int (n % 1000000) := by rw [ai, List.getElem?_map, List.getElem?_map, hn] at hy; cases hy; rfl
    refine a_name ?_
    refine w_store (by none_booked) (by leaf_len) ?_
    refine r_binop ?_
    repeat top_name
    refine o_mod (by constructor) ?_
    exact ⟨rfl, rfl, fun z av e => by cases e⟩
  generalize hd0 : (script.take 9).map (· % 1000000) = d0
  have hd0l : d0.length = (script.take 9).length := by rw [← hd0]; simp
  repeat top_name
  refine r_listz ?_
  repeat top_name
  refine ⟨by decide +kernel, ?_⟩
  refine r_callb ?_ (fun _ => rfl) (fun _ => rfl)
  refine r_global (by none_booked) gl ?_ (by none_booked)
  refine ⟨_, rfl, ?_⟩
  repeat top_name
  refine k_len (l := ai d0) (.fz _) (by simp [ai, hd0l]; exact ar108) ?_
  refine ⟨_, _, .fz _, rfl, ar0, by decide +kernel, ?_⟩
  refine o_addl (.fz _) (.fz _) (by simp [ai, hd0l]; exact ar446) ?_
  have hds : ai d0 ++ List.drop ((ai d0).length : Int).toNat [AV.int 8, .int 190, .int 17, .int 45, .int 223, .int 41, .int 13, .int 78, .int 6] = ai (drawnOf script) := by
    unfold drawnOf; rw [hd0, ← hd0l]; simp [ai, List.map_drop]
  rw [hds]
  have hnn : ∀ x ∈ drawnOf script, 0 ≤ x := by
    intro x hx
    unfold drawnOf at hx
    rcases List.mem_append.mp hx with q | q
    · obtain ⟨y, _, rfl⟩ := List.mem_map.mp q; exact Int.emod_nonneg _ (by decide +kernel)
    · have := List.mem_of_mem_drop q
      simp at this; exact ar56 this
  have hdl : (drawnOf script).length ≤ 18 := by unfold drawnOf; simp; exact ar447
  generalize drawnOf script = ds at *
  repeat top_name
  refine s_tup ?_ (fun _ _ => rfl) (fun _ _ => rfl)
  refine r_tuple ?_
  repeat top_name
  refine r_list ?_
  repeat top_name
  refine ⟨by exact Nat.succ_pos _, ?_⟩
  repeat top_name
  refine r_list ?_
  repeat top_name
  refine ⟨by exact Nat.succ_pos _, ?_⟩
  repeat top_name
  refine ⟨by simp, ?_⟩
  refine a_tuple ?_ rfl (fun _ => rfl) (fun _ => rfl)
  refine a_name ?_
  repeat top_name
  refine a_name ?_
  repeat top_name
  refine a_name ?_
  repeat top_name
  refine a_name ?_
  repeat top_name
  change WSs _ _ _ _ _ _
  repeat top_name
  refine s_for ?_ (fun _ _ => rfl) (.inl fun _ _ => rfl)
  repeat top_name
  refine ⟨ai ds, _, fun j σ1 => σ1 = ⟨pageLoc a ds led.length (pageRun (ds.take j)), led ++ [.list (ai (pageRun (ds.take j)).s), .list (ai (pageRun (ds.take j)).t)]⟩, it_list, by simp [pageLoc, pageRun, ai], ?_, ?_, ?_⟩
  · rintro j σ1 rfl; exact .fz _
  · rintro j σ1 x rfl - hx
    obtain ⟨n, hn, rfl⟩ : AtI ds j (fun n => .int n) x := at_map hx
    have hj : j < ds.length := (List.getElem?_eq_some_iff.mp hn).1
    have hn0 := hnn n (List.mem_of_getElem? hn)
    have ok := pageRun_ok (ds.take j) fun x hx => hnn x (List.mem_of_mem_take hx)
    have hnext : pageRun (ds.take (j + 1)) = pageStep (pageRun (ds.take j)) n := by rw [List.take_add_one, hn]; show List.foldl _ _ (_ ++ [_]) = _; rw [List.foldl_append]; rfl
    have hfin : ∀ p' : PS, p' = pageStep (pageRun (ds.take j)) n → (⟨pageLoc a ds led.length p', led ++ [.list (ai p'.s), .list (ai p'.t)]⟩ : St) = ⟨pageLoc a ds led.length (pageRun (ds.take (j + 1))), led ++ [.list (ai (pageRun (ds.take (j + 1))).s), .list (ai (pageRun (ds.take (j + 1))).t)]⟩ := fun p' e => by rw [hnext, e]
    generalize pageRun (ds.take j) = p at *
    have hlen : (ds.take j).length ≤ 18 := by rw [List.length_take]; exact ar448 hdl
    generalize (ds.take j).length = n0 at *
    unfold pageLoc
    refine a_name ?_
    repeat top_name
    refine s_tupsw (names := ["kind", "which"]) ?_ (fun _ _ => rfl) (fun env he => by cases env; subst he; kernel_rfl)
    refine r_tuple ?_
    repeat top_name
    refine o_mod (by constructor) ?_
    repeat top_name
    refine o_div (by constructor) (by constructor) ?_
    repeat top_name
    refine ⟨by simp, _, rfl, rfl, ?_⟩
    change WSt _ _ _ _ _ _
    repeat top_name
    change WSt _ _ _ _ _ _
    repeat top_name
    change WSs _ _ _ _ _ _
    repeat top_name
    obtain ⟨k1, k2, k3, k4, k5, k6⟩ := ok
    have hst : pageStep p n = pageStep p n := rfl
    conv at hst => rhs; unfold pageStep
    dsimp only at hst
    have gS : ∀ m m' : MO, (led ++ [m, m'])[led.length]? = some m := fun m m' => by simp
    have gT : ∀ m m' : MO, (led ++ [m, m'])[led.length + 1]? = some m' := fun m m' => by simp
    have sS : ∀ m m' x : MO, (led ++ [m, m']).set led.length x = led ++ [x, m'] := fun m m' x => by simp
    have sT : ∀ m m' x : MO, (led ++ [m, m']).set (led.length + 1) x = led ++ [m, x] := fun m m' x => by simp
    by_cases q0 : n % 8 = 0
    · rw [show (n % 8 == 0) = true by simpa using q0]
      rw [if_pos q0] at hst
      repeat top_name
      refine o_mod (by constructor) ?_
      repeat top_name
      refine s_expr ?_ rfl (fun _ => rfl)
      refine r_meth PySem.F.plainAttrs_list PySem.F.slot_list_append PySem.F.type_list_append (fun _ => rfl) (fun _ => rfl) rfl ?_
      repeat top_name
      refine m_append (gS _ _) (fun _ => rfl) ?_
      refine we_same (v := .int (if n / 8 % 27 < 11 then b1L.getD (n / 8 % 27).toNat 0 else 65013 + n / 8 % 27)) ?_ ?_
      · repeat top_name
        by_cases q1 : n / 8 % 27 < 11
        · rw [if_pos q1]
          simp only [q1, decide_true, if_true]
          repeat top_name
          refine r_listz ?_
          repeat top_name
          refine ⟨by decide +kernel, ?_⟩
          repeat top_name
          refine ix_list (l := ai b1L) (.fz _) (ar449) (ar450) ?_ ⟨rfl, rfl⟩
          have : (n / 8 % 27).toNat < b1L.length := by show _ < 11; exact ar451 q1
          simp [ai, List.getD_eq_getElem?_getD, this]
        · rw [if_neg q1]
          simp only [q1, decide_false]
          rw [if_neg (by simp)]
          repeat top_name
          exact ⟨rfl, rfl⟩
      · refine ⟨_, gS _ _, by simp [ai]; exact ar20 hlen k1, ?_⟩
        dsimp only
        rw [sS, ai_snoc]
        repeat top_name
        refine ⟨_, .names (get_pre (pageLoc a ds led.length p) _) (.refl _), by simp, ?_⟩
        exact hfin { p with s := _ } hst.symm
    · rw [show (n % 8 == 0) = false by simpa using q0]
      rw [if_neg q0] at hst
      rw [if_neg (by simp)]
      repeat top_name
      by_cases q1 : n % 8 < 5
      · rw [if_pos q1] at hst
        simp only [q1, decide_true, if_true]
        repeat top_name
        refine o_mod (by constructor) ?_
        refine o_add ?_
        refine w_store (by none_booked) (by leaf_len) ?_
        refine s_cons ?_
        refine s_assign ?_ (fun _ => rfl)
        refine we_same (v := .int (if 12272 + n / 8 % 12 = 12274 ∨ 12272 + n / 8 % 12 = 12275 then 2 else 1)) ?_ ?_
        · repeat top_name
          refine r_tuple ?_
          repeat top_name
          refine ⟨by decide +kernel, ?_⟩
          refine c_in_tup (l := [12274, 12275]) ?_
          repeat top_name
          generalize 12272 + n / 8 % 12 = sg
          by_cases h3 : sg = 12274 ∨ sg = 12275
          · have e1 : ([12274, 12275] : List Int).any (· == sg) = true := by rcases h3 with rfl | rfl <;> rfl
            rw [e1, if_pos h3]
            repeat top_name
            exact ⟨rfl, rfl⟩
          · have e1 : ([12274, 12275] : List Int).any (· == sg) = false := by simp; exact ar94 h3
            rw [e1, if_neg h3]
            rw [if_neg (by simp)]
            repeat top_name
            exact ⟨rfl, rfl⟩
        · generalize (if 12272 + n / 8 % 12 = 12274 ∨ 12272 + n / 8 % 12 = 12275 then (2 : Int) else 1) = more at *
          generalize 12272 + n / 8 % 12 = sg at *
          repeat top_name
          by_cases qa : p.a > 0
          · simp only [qa, decide_true, if_true]
            repeat top_name
            by_cases qb : p.l + p.a + more ≤ 5
            · simp only [qb, decide_true, if_true]
              rw [if_pos ⟨qa, qb⟩] at hst
              repeat top_name
              refine s_expr ?_ rfl (fun _ => rfl)
              refine r_meth PySem.F.plainAttrs_list PySem.F.slot_list_append PySem.F.type_list_append (fun _ => rfl) (fun _ => rfl) rfl ?_
              repeat top_name
              refine m_append (gS _ _) (fun _ => rfl) ?_
              repeat top_name
              refine ⟨_, gS _ _, by simp [ai]; exact ar20 hlen k1, ?_⟩
              dsimp only
              rw [sS, ai_snoc]
              repeat top_name
              refine s_expr ?_ rfl (fun _ => rfl)
              refine r_meth PySem.F.plainAttrs_list PySem.F.slot_list_append PySem.F.type_list_append (fun _ => rfl) (fun _ => rfl) rfl ?_
              repeat top_name
              refine m_append (gT _ _) (fun _ => rfl) ?_
              repeat top_name
              refine ⟨_, gT _ _, by simp [ai]; exact ar109 hlen k2, ?_⟩
              dsimp only
              rw [sT, ai_snoc]
              repeat top_name
              refine s_aug (by none_booked) (by one_sign) ?_
              repeat top_name
              refine o_iadd ?_
              repeat top_name
              refine ⟨_, .names (get_pre (pageLoc a ds led.length ⟨p.s ++ [sg], p.t ++ [sg], p.a + more, p.l⟩) _) (.refl _), by simp, ?_⟩
              exact hfin ⟨p.s ++ [sg], p.t ++ [sg], p.a + more, p.l⟩ hst.symm
            · simp only [qb, decide_false]
              rw [if_neg (fun e => qb e.2)] at hst
              rw [if_neg (by simp)]
              repeat top_name
              refine ⟨_, .names (get_pre (pageLoc a ds led.length p) _) (.refl _), by simp, ?_⟩
              exact hfin p hst.symm
          · simp only [qa, decide_false]
            rw [if_neg (fun e => qa e.1)] at hst
            rw [if_neg (by simp), if_neg (by simp)]
            repeat top_name
            refine ⟨_, .names (get_pre (pageLoc a ds led.length p) _) (.refl _), by simp, ?_⟩
            exact hfin p hst.symm
      · rw [if_neg q1] at hst
        simp only [q1, decide_false]
        rw [if_neg (by simp)]
        repeat top_name
        by_cases q2 : n % 8 = 5
        · rw [if_pos q2] at hst
          rw [show (n % 8 == 5) = true by simpa using q2]
          repeat top_name
          refine r_listz ?_
          repeat top_name
          refine ⟨by decide +kernel, ?_⟩
          repeat top_name
          refine o_mod (by constructor) ?_
          have hi6 : (n / 8 % 6).toNat < ligS.length := by show _ < 6; exact ar24
          have g3 := ligS_len (n / 8 % 6).toNat
          have hget : (ligS.map fun m => AV.str ⟨m.toArray⟩)[(n / 8 % 6).toNat]? = some (.str ⟨(ligS.getD (n / 8 % 6).toNat []).toArray⟩) := by simp [hi6, List.getD_eq_getElem?_getD]
          rw [lig_eq]
          generalize ligS.getD (n / 8 % 6).toNat [] = m at *
          refine ix_list (.fz _) (ar110) (ar111) hget ?_
          have hml : (⟨m.toArray⟩ : Str).length = m.length := by rfl
          repeat top_name
          refine r_callb ?_ (fun _ => rfl) (fun _ => rfl)
          refine r_global (by none_booked) gl ?_ (by none_booked)
          refine ⟨_, rfl, ?_⟩
          repeat top_name
          refine k_lens (by rw [hml]; exact ar7 g3) ?_
          rw [hml]
          repeat top_name
          by_cases q3 : (m.length : Int) ≤ p.a
          · rw [if_pos q3] at hst
            simp only [q3, decide_true, if_true]
            repeat top_name
            refine s_expr ?_ rfl (fun _ => rfl)
            refine r_meth PySem.F.plainAttrs_list PySem.F.slot_list_append PySem.F.type_list_append (fun _ => rfl) (fun _ => rfl) rfl ?_
            repeat top_name
            refine m_append (gS _ _) (fun _ => rfl) ?_
            repeat top_name
            refine r_listz ?_
            repeat top_name
            refine ⟨by decide +kernel, ?_⟩
            repeat top_name
            refine o_mod (by constructor) ?_
            refine ix_list (l := ai ligL) (x := .int (ligL.getD (n / 8 % 6).toNat 0)) (.fz _) (ar110) (ar111) (by have : (n / 8 % 6).toNat < ligL.length := by { show _ < 6; exact ar24 }; simp [ai, List.getD_eq_getElem?_getD, this]) ?_
            refine ⟨_, gS _ _, by simp [ai]; exact ar20 hlen k1, ?_⟩
            dsimp only
            rw [sS, ai_snoc]
            repeat top_name
            refine s_expr ?_ rfl (fun _ => rfl)
            refine r_meth PySem.F.plainAttrs_list PySem.F.slot_list_extend PySem.F.type_list_extend (fun _ => rfl) (fun _ => rfl) rfl ?_
            repeat top_name
            refine m_extend (gT _ _) (fun _ => rfl) ?_
            refine r_comp (compfrm0 (by decide +kernel) (by decide +kernel) (by simp only []) (by decide +kernel) (.inl fun _ _ => rfl)) ?_ (fun _ _ => rfl)
            repeat top_name
            refine ⟨ai (m.map Int.ofNat), chars ⟨m.toArray⟩, fun _ => True, [], ⟨it_str, trivial, by simp [ai, chars], by simp [chars]; exact ar7 g3, (fun x av e => by cases e), fun _ => rfl, (fun e => by cases e), ?_⟩, ?_⟩
            · intro k x y hx hy
              obtain ⟨cc, hcc, rfl⟩ : AtI m k (fun cc => .str ⟨#[cc]⟩) x := at_map hx
              obtain rfl : y = .int (cc : Nat) := by simp [ai, hcc] at hy; exact hy.symm
              refine a_name ?_
              refine w_store (by none_booked) (by leaf_len) ?_
              refine r_callb ?_ (fun _ => rfl) (fun _ => rfl)
              refine r_global (by none_booked) go ?_ (by none_booked)
              refine ⟨_, rfl, ?_⟩
              repeat top_name
              refine k_ord ?_
              exact ⟨rfl, rfl, fun z av e => by cases e⟩
            · refine ⟨_, _, gT _ _, .fz _, by simp, by simp [ai]; exact ar452 hlen k2 g3, ?_⟩
              dsimp only
              rw [sT]
              repeat top_name
              refine s_aug (by none_booked) (by one_sign) ?_
              refine r_callb ?_ (fun _ => rfl) (fun _ => rfl)
              refine r_global (by none_booked) gl ?_ (by none_booked)
              refine ⟨_, rfl, ?_⟩
              repeat top_name
              refine k_lens (by rw [hml]; exact ar7 g3) ?_
              rw [hml]
              refine o_isub ?_
              repeat top_name
              refine s_aug (by none_booked) (by one_sign) ?_
              refine r_callb ?_ (fun _ => rfl) (fun _ => rfl)
              refine r_global (by none_booked) gl ?_ (by none_booked)
              refine ⟨_, rfl, ?_⟩
              repeat top_name
              refine k_lens (by rw [hml]; exact ar7 g3) ?_
              rw [hml]
              refine o_iadd ?_
              repeat top_name
              refine ⟨_, .names (get_pre (pageLoc a ds led.length ⟨p.s ++ [ligL.getD (n / 8 % 6).toNat 0], p.t ++ m.map Int.ofNat, p.a - m.length, p.l + m.length⟩) _) (.refl _), by simp, ?_⟩
              refine Eq.trans ?_ (hfin _ hst.symm)
              simp [ai]
          · simp only [q3, decide_false]
            rw [if_neg q3] at hst
            rw [if_neg (by simp)]
            repeat top_name
            refine ⟨_, .names (get_pre (pageLoc a ds led.length p) _) (.refl _), by simp, ?_⟩
            exact hfin p hst.symm
        · rw [if_neg q2] at hst
          rw [show (n % 8 == 5) = false by simpa using q2]
          rw [if_neg (by simp)]
          repeat top_name
          by_cases qa : p.a > 0
          · rw [if_pos qa] at hst
            simp only [qa, decide_true, if_true]
            repeat top_name
            refine r_listz ?_
            repeat top_name
            refine ⟨by decide +kernel, ?_⟩
            repeat top_name
            refine o_div (by constructor) (by constructor) ?_
            repeat top_name
            refine o_mod (by constructor) ?_
            refine ix_list (l := ai alpL) (x := .int (alpL.getD (n / 8 / 26 % 11).toNat 0)) (.fz _) (ar453) (ar454) (by have : (n / 8 / 26 % 11).toNat < alpL.length := by { show _ < 11; exact ar55 }; simp [ai, List.getD_eq_getElem?_getD, this]) ?_
            generalize alpL.getD (n / 8 / 26 % 11).toNat 0 = al at *
            repeat top_name
            refine s_expr ?_ rfl (fun _ => rfl)
            refine r_meth PySem.F.plainAttrs_list PySem.F.slot_list_append PySem.F.type_list_append (fun _ => rfl) (fun _ => rfl) rfl ?_
            repeat top_name
            refine m_append (gS _ _) (fun _ => rfl) ?_
            repeat top_name
            refine o_mod (by constructor) ?_
            repeat top_name
            refine ⟨_, gS _ _, by simp [ai]; exact ar20 hlen k1, ?_⟩
            dsimp only
            rw [sS, ai_snoc]
            repeat top_name
            refine s_expr ?_ rfl (fun _ => rfl)
            refine r_meth PySem.F.plainAttrs_list PySem.F.slot_list_append PySem.F.type_list_append (fun _ => rfl) (fun _ => rfl) rfl ?_
            repeat top_name
            refine m_append (gT _ _) (fun _ => rfl) ?_
            repeat top_name
            refine o_mod (by constructor) ?_
            repeat top_name
            refine ⟨_, gT _ _, by simp [ai]; exact ar109 hlen k2, ?_⟩
            dsimp only
            rw [sT, ai_snoc]
            repeat top_name
            refine s_aug (by none_booked) (by one_sign) ?_
            repeat top_name
            refine o_isub ?_
            repeat top_name
            refine s_aug (by none_booked) (by one_sign) ?_
            repeat top_name
            refine o_iadd ?_
            repeat top_name
            refine ⟨_, .names (get_pre (pageLoc a ds led.length ⟨p.s ++ [al + n / 8 % 26], p.t ++ [97 + n / 8 % 26], p.a - 1, p.l + 1⟩) _) (.refl _), by simp, ?_⟩
            exact hfin _ hst.symm
          · simp only [qa, decide_false]
            rw [if_neg qa] at hst
            rw [if_neg (by simp)]
            repeat top_name
            refine ⟨_, .names (get_pre (pageLoc a ds led.length p) _) (.refl _), by simp, ?_⟩
            exact hfin p hst.symm
  · rintro σ1 rfl -
    have e : ds.take (ai ds).length = ds := by simp [ai]
    rw [e]
    have ok := pageRun_ok ds hnn
    generalize pageRun ds = p at *
    obtain ⟨k1, k2, k3, k4, k5, k6⟩ := ok
    have gS : ∀ m m' : MO, (led ++ [m, m'])[led.length]? = some m := fun m m' => by simp
    have gT : ∀ m m' : MO, (led ++ [m, m'])[led.length + 1]? = some m' := fun m m' => by simp
    have sS : ∀ m m' x : MO, (led ++ [m, m']).set led.length x = led ++ [x, m'] := fun m m' x => by simp
    have sT : ∀ m m' x : MO, (led ++ [m, m']).set (led.length + 1) x = led ++ [m, x] := fun m m' x => by simp
    unfold pageLoc
    repeat top_name
    refine s_expr ?_ rfl (fun _ => rfl)
    refine r_meth PySem.F.plainAttrs_list PySem.F.slot_list_extend PySem.F.type_list_extend (fun _ => rfl) (fun _ => rfl) rfl ?_
    repeat top_name
    refine m_extend (gS _ _) (fun _ => rfl) ?_
    repeat top_name
    refine r_listz ?_
    repeat top_name
    refine ⟨by exact Nat.succ_pos _, ?_⟩
    repeat top_name
    refine o_mull (.fz _) k3 (ar112 k4 k5) ?_
    refine ⟨_, _, gS _ _, .fz _, by simp, by simp [ai]; exact ar455 hdl k1 k4 k5, ?_⟩
    dsimp only
    rw [sS]
    repeat top_name
    refine s_expr ?_ rfl (fun _ => rfl)
    refine r_meth PySem.F.plainAttrs_list PySem.F.slot_list_extend PySem.F.type_list_extend (fun _ => rfl) (fun _ => rfl) rfl ?_
    repeat top_name
    refine m_extend (gT _ _) (fun _ => rfl) ?_
    repeat top_name
    refine r_listz ?_
    repeat top_name
    refine ⟨by exact Nat.succ_pos _, ?_⟩
    repeat top_name
    refine o_mull (.fz _) k3 (ar112 k4 k5) ?_
    refine ⟨_, _, gT _ _, .fz _, by simp, by simp [ai]; exact ar456 hdl k2 k4 k5, ?_⟩
    dsimp only
    rw [sT]
    have e1 : ai p.s ++ List.replicate p.a.toNat (AV.int 71) = ai (signsOf p) := by simp [ai, signsOf]
    have e2 : ai p.t ++ List.replicate p.a.toNat (AV.int 103) = ai (toldOf p) := by simp [ai, toldOf]
    rw [e1, e2]
    have hch : ∀ c ∈ signsOf p, 0 ≤ c ∧ c ≤ 0x10FFFF := fun c hc => by
      unfold signsOf at hc
      rcases List.mem_append.mp hc with q | q
      · exact k6 c q
      · have := List.eq_of_mem_replicate q; exact ar457 this
    have hsl : (signsOf p).length ≤ 100 := by unfold signsOf; simp; exact ar458 hdl k1 k4 k5
    generalize signsOf p = sg at *
    repeat top_name
    refine r_tuple ?_
    repeat top_name
    refine r_meth PySem.F.plainAttrs_str PySem.F.slot_str_join PySem.F.type_str_join (fun _ => rfl) (fun _ => rfl) rfl ?_
    repeat top_name
    refine m_join (by rfl) (fun _ => rfl) ?_
    refine r_comp (compfrm0 (by decide +kernel) (by decide +kernel) (by simp only []) (by decide +kernel) (.inl fun _ _ => rfl)) ?_ (fun _ _ => rfl)
    repeat top_name
    refine ⟨chs (sg.map Int.toNat), ai sg, _, [], ⟨it_list, .md (gS _ _), by simp [ai, chs], by simp [ai]; exact ar46 hsl, (fun x av e => by cases e), fun _ => rfl, (fun e => by cases e), ?_⟩, ?_⟩
    · intro k x y hx hy
      obtain ⟨n, hn, rfl⟩ : AtI sg k (fun n => .int n) x := at_map hx
      obtain rfl : y = .str ⟨#[n.toNat]⟩ := by simp [chs, hn] at hy; exact hy.symm
      have hb := hch n (List.mem_of_getElem? hn)
      refine a_name ?_
      refine w_store (by none_booked) (by leaf_len) ?_
      refine r_callb ?_ (fun _ => rfl) (fun _ => rfl)
      refine r_global (by none_booked) gc ?_ (by none_booked)
      refine ⟨_, rfl, ?_⟩
      repeat top_name
      refine k_chr hb.1 hb.2 ?_
      exact ⟨rfl, rfl, fun z av e => by cases e⟩
    · refine ⟨sg.map Int.toNat, .fz _, by simp; exact ar46 hsl, ?_⟩
      repeat top_name
      refine ⟨by simp, ?_⟩
      exact h _
end
section
open PySem PySem.W PyProof.Rows PySem.SeqAt
set_option Elab.async false
set_option linter.unusedVariables false
set_option linter.unnecessarySimpa false
set_option linter.unusedSimpArgs false
set_option maxRecDepth 100000
variable {B : Base} {F : Frm} {σ : St} {Q : AV → St → Prop} {Qn : St → Prop} {Qr : AV → St → Prop}
theorem page_ok {c ht} (D : Def B "_law_page" 16 c NoD) (gl : GlobIs B "len" (.bi "len")) (go : GlobIs B "ord" (.bi "ord")) (gc : GlobIs B "chr" (.bi "chr")) : SpecOK B (ht + 2) (.fn "_law_page") pageSpec := by
  refine spec_def D (by decide +kernel) (by decide +kernel) (by decide +kernel) (by decide +kernel) ?_
  intro Z φ E s vs ks args kws led Q name dV kV doc pm an ct hP I rv rk ⟨hkw, a, script, ha, hl, hz, hnr, hq⟩
  obtain ⟨rfl, rfl⟩ := hP
  subst hkw ha
  obtain rfl := rk.nil_i
  replace rv := rv.cons_i; obtain ⟨v1, _, rfl, r1, rv⟩ := rv
  obtain rfl := rv.nil_i
  refine ⟨[("script", v1)], [("script", a)], .of_eq rfl, .cons r1 .nil, nd_names ["script"] (by decide +kernel) rfl, loc_names ["script"] (by decide +kernel) rfl, ?_⟩
  have fin : ∀ loc, Aft Q led (.tup [.str ⟨((signsOf (pageRun (drawnOf script))).map Int.toNat).toArray⟩, .ref (led.length + 1)]) (St.mk loc (led ++ [.list (ai (signsOf (pageRun (drawnOf script)))), .list (ai (toldOf (pageRun (drawnOf script))))])).led := ?_
  · have key := page_walk (B := B) (c := c) (q := Str.ofString "_law_page" ++ ".<locals>.") (ht := ht) (led := led) (Qn := fun σ' => AftN Q led σ'.led)
      (Qr := fun r σ' => Aft Q led r σ'.led) hl hz gl go gc fin
    with_reducible exact Boxd.get key
  intro loc
  refine ⟨_, _, ?_, ?_, hq⟩
  · generalize toldOf (pageRun (drawnOf script)) = t
    generalize signsOf (pageRun (drawnOf script)) = sg
    refine rw_frz (i := led.length + 1) (l := ai t) (r' := .tup [.str ⟨(sg.map Int.toNat).toArray⟩, .lst (ai t)]) (by simp) (by simp [sb, sb1]) ?_
    have e : (led ++ [MO.list (ai sg), .list (ai t)]).set (led.length + 1) .gone = led ++ [.list (ai sg), .gone] := by simp
    dsimp only
    rw [e]
    exact rw_cut hnr (by simp [nr, nrs, nr_ai])
  · simp
end
section
open PySem PySem.W PyProof.Rows PySem.Calls
set_option Elab.async false
set_option linter.unusedVariables false
set_option maxRecDepth 100000
def dNames : List (Nat × String) := [(1, "insort_left"), (2, "bisect_left"), (5, "in_table_b1"), (7, "map_table_b3"), (9, "in_table_c7"), (13, "ISNONTERMINAL"), (14, "ISEOF"), (16, "_law_page"), (17, "_law_symbols"), (18, "_law_go"), (19, "_law_path"), (20, "_law_tree"), (21, "_law_states"), (22, "law")]
theorem dNames_ok : ∀ p ∈ dNames, fName (sN p.1) = Str.ofString p.2 := by decide +kernel
def qGo : Str := (Str.ofString "_law_go" ++ ".<locals>.") ++ "<lambda>"
def qPath : Str := (Str.ofString "_law_path" ++ ".<locals>.") ++ "<lambda>"

/-- what the walk wants of the base -/
structure Ready (B : Base) : Prop where
  defs : ∀ p ∈ dNames, p.1 ≠ 1 → p.1 ≠ 2 → ∃ c, Def B p.2 p.1 c NoD
  ins : ∃ c, Def B "insort_left" 1 c (Dflt B)
  bis : ∃ c, Def B "bisect_left" 2 c (Dflt B)
  go : ∃ c P, Def B "_law_go" 18 c NoD ∧ (⟨c, P, qGo⟩ : Tab) ∈ B.tabs
  path : ∃ c P, Def B "_law_path" 19 c NoD ∧ (⟨c, P, qPath⟩ : Tab) ∈ B.tabs
  glob : ∀ p ∈ dNames, GlobIs B (Str.ofString p.2) (.fn p.2)
  blt : ∀ n ∈ ["len", "ord", "chr", "sum", "max", "min", "sorted"], GlobIs B (Str.ofString n) (.bi n)
  typ : ∀ n ∈ ["range", "list", "zip"], GlobIs B (Str.ofString n) (.ty n)
  eof : GlobIs B "ENDMARKER" (.int 0)
  nt : GlobIs B "NT_OFFSET" (.int 256)
  b1 : GlobIs B "b1_set" (.iset fun k => (b1L ++ rng 65024 16).any (· == k))
  c7 : GlobIs B "c7_set" (.iset fun k => (rng 12272 12).any (· == k))
  b3 : GlobIs B "b3_exceptions" (.dct (b3D.map (·.1)) ((b3D.map (·.2)).map .str))

theorem IsDef.fn {i N lo hi a c' P' dV kV pm doc Φ} (D : IsDef i N lo hi a c' P' dV kV pm doc Φ) {h : Heap} (x : Φ h) : ∃ o fd, h.get? a = some o ∧ o.data = .func fd := ⟨_, _, (D.f h x).o, rfl⟩
theorem tab_ne {h : Heap} {c P a : Addr} {ps} (t : h.TableAt c P ps) {o : Obj} (ho : h.get? a = some o) (hc : o.cls ≠ .none) : P ≠ a := by
  rintro rfl
  rw [t.2] at ho; cases ho; exact hc rfl

section
variable {w : World} {s₀ s₁ : Shared} {mb mg mg' : Str → Option Value} {c0 Pl0 : Addr} {h₀ : Heap} {c Pl : Addr} {ps : Array Value} {Φ : Heap → Prop}
def lst (vs : List Value) : Obj := { cls := .type "list", data := .seq vs.toArray }

theorem defs_all (T : Tops w h₀.objs.size mg mg' Φ) : ∀ p ∈ dNames, DefX h₀.objs.size mg' Φ p.1 := by
  have h : ∀ p ∈ dNames, p.1 ∈ [1, 2, 5, 7, 9, 13, 14, 16, 17, 20, 21, 22] ∨ p.1 = 18 ∨ p.1 = 19 := by decide
  intro p hp
  rcases h p hp with h | h | h
  · exact T.defs _ h
  · rw [h]; obtain ⟨lo, mid, hi, a, c', P', dV, kV, pm, doc, b, d', R', dV', kV', pm', doc', e1, D1, e2, D2⟩ := T.tabs; exact ⟨lo, mid, a, c', P', dV, kV, pm, doc, e1, D1⟩
  · rw [h]; obtain ⟨lo, mid, hi, a, c', P', dV, kV, pm, doc, b, d', R', dV', kV', pm', doc', e1, D1, e2, D2⟩ := T.tabs; exact ⟨mid, hi, b, d', R', dV', kV', pm', doc', e2, D2⟩
end
end
section
open PySem PySem.W PyProof.Rows PySem.Calls
set_option Elab.async false
set_option linter.unusedVariables false
set_option maxRecDepth 100000
def fnMap (mg' : Str → Option Value) (f : String) : Option Addr :=
  if (dNames.map (·.2)).contains f then (match mg' (Str.ofString f) with | some (.ref a) => some a | _ => none) else none
theorem fnMap_at {mg' : Str → Option Value} {p : Nat × String} (hp : p ∈ dNames) {a : Addr} (h : mg' (fName (sN p.1)) = some (.ref a)) : fnMap mg' p.2 = some a := by
  have e : (dNames.map (·.2)).contains p.2 = true := List.contains_iff_mem.mpr (List.mem_map_of_mem hp)
  rw [dNames_ok p hp] at h
  unfold fnMap
  rw [if_pos e, h]
theorem fnMap_of {mg' : Str → Option Value} {f : String} {a : Addr} (h : fnMap mg' f = some a) : ∃ p ∈ dNames, p.2 = f ∧ mg' (fName (sN p.1)) = some (.ref a) := by
  unfold fnMap at h
  split at h
  · rename_i e
    obtain ⟨p, hp, rfl⟩ := List.mem_map.mp (List.contains_iff_mem.mp e)
    refine ⟨p, hp, rfl, ?_⟩
    rw [dNames_ok p hp]
    revert h
    cases mg' (Str.ofString p.2) with
    | none => intro h; cases h
    | some v => cases v <;> intro h <;> first | cases h; rfl | cases h
  · cases h
theorem push_keep {h : Heap} (o : Obj) : ∀ b x, h.get? b = some x → (h.push o).get? b = some x := fun b x e => Heap.get?_push_of_some o e

theorem df_vals {es : List Expr} {vs : List Value} (h : ∃ k p k' p', es = [.Constant (.int 0) k p, .Constant .none k' p']) (hc : ConstVals es vs) : ∃ t, vs = [.int 0 t, .none] := by
  obtain ⟨_, _, _, _, rfl⟩ := h
  cases vs with
  | nil => exact hc.elim
  | cons v vs =>
    cases vs with
    | nil => exact hc.2.elim
    | cons u vs =>
      cases vs with
      | nil => obtain ⟨⟨t, e1⟩, e2, _⟩ := hc; exact ⟨t, by rw [e1, show u = .none from e2]⟩
      | cons => exact hc.2.2.elim
theorem SV.rel {B : Base} {Z φ} {kvs : List (Int × Value)} {D : List (Int × Str)} (h : SV kvs D) : RelVs B Z φ (kvs.map (·.2)) ((D.map (·.2)).map .str) := by
  induction h with
  | nil => exact .nil
  | cons _ ih => exact .cons (.str ..) ih
theorem bi_ok : ∀ n ∈ ["len", "ord", "chr", "sum", "max", "min", "sorted"], Str.ofString n ∉ pw.boundNames ∧ Str.ofString n ∉ bootMainNames ∧ Str.ofString n ≠ "__name__" ∧ bootBuiltins (Str.ofString n) = some (.builtin n) := by decide +kernel
theorem ty_ok : ∀ n ∈ ["range", "list", "zip"], Str.ofString n ∉ pw.boundNames ∧ Str.ofString n ∉ bootMainNames ∧ Str.ofString n ≠ "__name__" ∧ bootBuiltins (Str.ofString n) = some (.type n) := by decide +kernel
inductive BaseOf (w : World) (s₁ : Shared) (vs : List Value) : Prop
  | mk (B : Base) (mg' : Str → Option Value) : B.prog = pw → B.w = w → B.H = s₁.heap.push (lst vs) → B.os = s₁.os → Ready B → (∀ t ∈ B.tabs, t.c < s₁.heap.objs.size ∧ t.P < s₁.heap.objs.size ∧ s₁.heap.IsCode t.c t.P #[] ∧ s₁.heap.TableAt t.c t.P #[]) → B.mg = mg' → s₁.heap.Ns mainGlobals mg' → BaseOf w s₁ vs
theorem mkBase {w : World} {s₀ s₁ : Shared} {mb mg : Str → Option Value} {c0 Pl0 : Addr} (hB : BootLeft s₀.heap mb mg c0 Pl0) (hP : TopP w mg s₀ s₁) (vs : List Value) :
    BaseOf w s₁ vs := by
  obtain ⟨h₀, c, Pl, mg', ps, Φ, hk, hPl, X, T⟩ := hP.ex
  have D := defs_all T
  have hΦ := X.phi
  have keep : ∀ b o, s₀.heap.get? b = some o → b ≠ mainGlobals → s₁.heap.get? b = some o := fun b o e hne =>
    X.keep b o (Nat.ne_of_lt (Nat.lt_of_lt_of_le (Heap.lt_size e) hPl)) hne (hk b o e)
  have hstat : s₁.heap.Ns cStatics (fun _ => none) := hB.statics.at fun o e => keep _ o e (by decide)
  have hblt : s₁.heap.Ns builtinsNs mb := hB.b.at fun o e => keep _ o e (by decide)
  have hN : mainGlobals < h₀.objs.size := X.lowG
  have hsz : h₀.objs.size ≤ s₁.heap.objs.size := X.grows
  have pk := @push_keep s₁.heap (lst vs)
  obtain ⟨lo, mid, hi, a18, c18, P18, dV, kV, pm, doc, a19, c19, P19, dV', kV', pm', doc', e18, D18, e19, D19⟩ := T.tabs
  have F18 := D18.f _ hΦ
  have F19 := D19.f _ hΦ
  have n18 : fName (sN 18) = Str.ofString "_law_go" := dNames_ok (18, "_law_go") (by decide +kernel)
  have n19 : fName (sN 19) = Str.ofString "_law_path" := dNames_ok (19, "_law_path") (by decide +kernel)
  have big : ∀ x, h₀.objs.size ≤ x → x ≠ mainNs ∧ x ≠ builtinsNs ∧ x ≠ cStatics ∧ sysModules < x := fun x hx => by
    have h3 : (3 : Nat) < x := Nat.lt_of_lt_of_le hN hx
    exact ⟨Nat.ne_of_gt h3, Nat.ne_of_gt (Nat.lt_of_le_of_lt (by exact Nat.zero_le _) h3), Nat.ne_of_gt (Nat.lt_of_le_of_lt (by decide +kernel) h3), Nat.lt_of_le_of_lt (by exact Nat.succ_pos _) h3⟩
  have tabmem : ∀ (P : Tab → Prop), P ⟨c18, P18, qGo⟩ → P ⟨c19, P19, qPath⟩ → ∀ t ∈ [(⟨c18, P18, qGo⟩ : Tab), ⟨c19, P19, qPath⟩], P t := fun P h1 h2 t ht => by
    rcases List.mem_cons.mp ht with rfl | ht
    · exact h1
    · rcases List.mem_cons.mp ht with rfl | ht
      · exact h2
      · cases ht
  have tabAt : ∀ t ∈ [(⟨c18, P18, qGo⟩ : Tab), ⟨c19, P19, qPath⟩], s₁.heap.TableAt t.c t.P #[] := tabmem _ F18.tab F19.tab
  have tabN : ∀ t ∈ [(⟨c18, P18, qGo⟩ : Tab), ⟨c19, P19, qPath⟩], h₀.objs.size ≤ t.P := tabmem _ D18.nP D19.nP
  have tabNe : ∀ t ∈ [(⟨c18, P18, qGo⟩ : Tab), ⟨c19, P19, qPath⟩], ∀ a o, s₁.heap.get? a = some o → o.cls ≠ .none → t.P ≠ a := fun t ht a o ho hc => tab_ne (tabAt t ht) ho hc
  have cP : ∀ t ∈ [(⟨c18, P18, qGo⟩ : Tab), ⟨c19, P19, qPath⟩], ∀ t' ∈ [(⟨c18, P18, qGo⟩ : Tab), ⟨c19, P19, qPath⟩], t.c ≠ t'.P := fun t ht t' ht' => by
    obtain ⟨⟨o, vs', ho, hcl, _⟩, _⟩ := tabAt t ht
    exact (tabNe t' ht' _ o ho (by rw [hcl]; decide +kernel)).symm
  have PP : P18 ≠ P19 := Nat.ne_of_lt (Nat.lt_of_lt_of_le D18.hi D19.lo)
  let B : Base := {
    prog := pw, w := w, H := s₁.heap.push (lst vs), mg := mg', mb := mb, os := s₁.os, fn := fnMap mg', tabs := [⟨c18, P18, qGo⟩, ⟨c19, P19, qPath⟩]
    last := ⟨s₁.heap.objs.size, lst vs, Heap.get?_push_size _ rfl, by rw [Heap.size_push]⟩
    gNs := X.main.g.push _
    bNs := hblt.push _
    lim := ⟨_, hstat.push _, rfl⟩
    lo := by
      rw [Heap.size_push]
      have := (big h₀.objs.size (Nat.le_refl _)).2.2.2
      exact Nat.lt_succ_of_lt (Nat.lt_of_lt_of_le this hsz)
    bm := by
      obtain ⟨bm, bo, hbm, hb0, hbG, hbP, hbo, hbc, hbd, hbp⟩ := X.main.bmod
      exact ⟨bm, bo, hbm, hb0, hbG, fun t ht => tabNe t ht _ _ hbo (by rw [hbc]; decide +kernel), pk _ _ hbo, hbc, hbd, hbp⟩
    tn := fun t ht t' ht' => ⟨cP t ht t' ht', tabmem (fun t => ∀ t' ∈ [(⟨c18, P18, qGo⟩ : Tab), ⟨c19, P19, qPath⟩], t.P = t'.P → t = t')
      (tabmem (fun t' => P18 = t'.P → (⟨c18, P18, qGo⟩ : Tab) = t') (fun _ => rfl) (fun e => absurd e PP)) (tabmem (fun t' => P19 = t'.P → (⟨c19, P19, qPath⟩ : Tab) = t') (fun e => absurd e.symm PP) (fun _ => rfl)) t ht t' ht'⟩
    tb := fun t ht => ⟨_, (tabAt t ht).push _⟩
    fnO := fun f a hf => by
      obtain ⟨p, hp, rfl, hm⟩ := fnMap_of hf
      obtain ⟨lo, hi, a', c', P', dV, kV, pm, doc, e, D'⟩ := D p hp
      rw [e] at hm; cases hm
      have ho := (D'.f _ hΦ).o
      exact ⟨⟨_, _, pk _ _ ho, rfl⟩, fun t ht => tabNe t ht _ _ ho (by simp)⟩
    nt := fun t ht => ⟨(big _ (tabN t ht)).1, (big _ (tabN t ht)).2.1, (big _ (tabN t ht)).2.2.1⟩ }
  refine ⟨B, mg', rfl, rfl, rfl, rfl, ?_, tabmem _ ⟨F18.code.lt.1, F18.code.lt.2, F18.code, F18.tab⟩ ⟨F19.code.lt.1, F19.code.lt.2, F19.code, F19.tab⟩, rfl, X.main.g⟩
  have obj : ∀ {a o}, s₁.heap.get? a = some o → o.cls ≠ .none → ∀ Z, BaseIn B Z → Z a = some o := fun {a o} ho hc Z hZ => hZ a o (pk _ _ ho) fun t ht => tabNe t ht _ _ ho hc
  have defAt : ∀ p ∈ dNames, ∀ {lo hi a c' P' dV kV pm doc}, mg' (fName (sN p.1)) = some (.ref a) → IsDef p.1 h₀.objs.size lo hi a c' P' dV kV pm doc Φ → ∀ {R : Value → Value → Prop}, R dV kV → Def B p.2 p.1 c' R := by
    intro p hp lo hi a c' P' dV kV pm doc e D' R hR
    have Fa := D'.f _ hΦ
    have nm' := dNames_ok p hp
    have ho := Fa.o
    have hr := Fa.rec'
    rw [nm'] at ho hr
    refine ⟨a, _, _, _, Str.ofString p.2, dV, kV, doc, pm, none, .none, fnMap_at hp e, pk _ _ ho, hr.push _, fun t ht => ?_, hR⟩
    obtain ⟨⟨o, vs', ho', hcl, _⟩, _⟩ := Fa.tab
    exact tabNe t ht _ o ho' (by rw [hcl]; decide +kernel)
  have plain : ∀ p ∈ dNames, p.1 ≠ 1 → p.1 ≠ 2 → (fArgs (sN p.1)).kwonlyargs = [] ∧ (fArgs (sN p.1)).defaults = [] := by
    have : ∀ p ∈ dNames, p.1 = 1 ∨ p.1 = 2 ∨ ((fArgs (sN p.1)).kwonlyargs.isEmpty = true ∧ (fArgs (sN p.1)).defaults.isEmpty = true) := by decide
    intro p hp h1 h2
    rcases this p hp with h | h | ⟨h3, h4⟩
    · exact absurd h h1
    · exact absurd h h2
    · exact ⟨List.isEmpty_iff.mp h3, List.isEmpty_iff.mp h4⟩
  have noD : ∀ p ∈ dNames, p.1 ≠ 1 → p.1 ≠ 2 → ∀ {lo hi a c' P' dV kV pm doc}, IsDef p.1 h₀.objs.size lo hi a c' P' dV kV pm doc Φ → NoD dV kV := by
    intro p hp h1 h2 lo hi a c' P' dV kV pm doc D'
    obtain ⟨q1, q2⟩ := plain p hp h1 h2
    refine ⟨?_, D'.k q1⟩
    rcases D'.d with ⟨_, e⟩ | ⟨T, vs, hne, _, _, hcv, _⟩
    · exact e
    · rw [q2] at hcv
      cases vs with
      | nil => exact absurd rfl hne
      | cons => exact hcv.elim
  have dflt : ∀ p ∈ dNames, (∃ k q k' q', (fArgs (sN p.1)).defaults = [.Constant (.int 0) k q, .Constant .none k' q']) → ∀ {lo hi a c' P' dV kV pm doc}, IsDef p.1 h₀.objs.size lo hi a c' P' dV kV pm doc Φ → Dflt B dV kV := by
    intro p hp h1 lo hi a c' P' dV kV pm doc D'
    rcases D'.d with ⟨e, _⟩ | ⟨T, vs, hne, rfl, hT, hcv, hg⟩
    · rw [e] at h1; obtain ⟨_, _, _, _, h1⟩ := h1; cases h1
    · obtain ⟨t, rfl⟩ := df_vals h1 hcv
      have ho := hg _ hΦ
      exact ⟨T, _, t, 0, rfl, pk _ _ ho, fun t ht => tabNe t ht _ _ ho (by simp), rfl⟩
  have defX : ∀ p ∈ dNames, ∀ {R : Value → Value → Prop}, (∀ {lo hi a c' P' dV kV pm doc}, IsDef p.1 h₀.objs.size lo hi a c' P' dV kV pm doc Φ → R dV kV) → ∃ c, Def B p.2 p.1 c R := fun p hp R hR =>
    let ⟨lo, hi, a, c', P', dV, kV, pm, doc, e, D'⟩ := D p hp; ⟨c', defAt p hp e D' (hR D')⟩
  have none' : ∀ x, x ∉ pw.boundNames → x ∉ bootMainNames → mg' x = none := fun x h1 h2 => (T.others x h1).trans (hB.others x h2)
  have setG : ∀ {x : Str} {a : Addr} {o : Obj} {S : Int → Bool}, mg' x = some (.ref a) → (∀ h, Φ h → h.get? a = some o) → (∃ m, o.SetObjOf (intKind pw w) S m ∧ m < scanBound) → GlobIs B x (.iset S) := by
    intro x a o S h1 h2 ⟨m, h3, h4⟩
    refine ⟨.ref a, .inl h1, fun Z φ hZ => .iset (n := m) (obj (h2 _ hΦ) (by rw [h3.1.1]; decide +kernel) Z hZ) fun h ho => h3.setOf ho h4⟩
  refine ⟨fun p hp h1 h2 => defX p hp (noD p hp h1 h2), defX (1, "insort_left") (by decide +kernel) (dflt (1, "insort_left") (by decide +kernel) ⟨_, _, _, _, rfl⟩), defX (2, "bisect_left") (by decide +kernel) (dflt (2, "bisect_left") (by decide +kernel) ⟨_, _, _, _, rfl⟩),
    ⟨c18, P18, defAt (18, "_law_go") (by decide +kernel) e18 D18 (noD (18, "_law_go") (by decide +kernel) (by decide +kernel) (by decide +kernel) D18), List.mem_cons_self⟩, ⟨c19, P19, defAt (19, "_law_path") (by decide +kernel) e19 D19 (noD (19, "_law_path") (by decide +kernel) (by decide +kernel) (by decide +kernel) D19), List.mem_cons_of_mem _ List.mem_cons_self⟩,
    fun p hp => ?_, fun n hn => ?_, fun n hn => ?_, ?_, ?_, ?_, ?_, ?_⟩
  · obtain ⟨lo, hi, a, c', P', dV, kV, pm, doc, e, D'⟩ := D p hp
    refine ⟨.ref a, .inl ?_, fun Z φ hZ => .fn (fnMap_at hp e)⟩
    rw [← dNames_ok p hp]; exact e
  · obtain ⟨h1, h2, h3, h4⟩ := bi_ok n hn
    exact ⟨.builtin n, .inr ⟨none' _ h1 h2, (hB.builtins _ h3).trans h4⟩, fun Z φ hZ => .bi _⟩
  · obtain ⟨h1, h2, h3, h4⟩ := ty_ok n hn
    exact ⟨.type n, .inr ⟨none' _ h1 h2, (hB.builtins _ h3).trans h4⟩, fun Z φ hZ => .ty _⟩
  · obtain ⟨t, ht⟩ := T.eof
    exact ⟨.int 0 t, .inl ht, fun Z φ hZ => .int ..⟩
  · obtain ⟨t, ht⟩ := T.nt
    exact ⟨.int 256 t, .inl ht, fun Z φ hZ => .int ..⟩
  · obtain ⟨a, o, h1, _, h2, h3⟩ := T.b1
    exact setG h1 h2 h3
  · obtain ⟨a, o, h1, _, h2, h3⟩ := T.c7
    exact setG h1 h2 h3
  · obtain ⟨a, o, h1, hn, h2, kvs, h3, h4⟩ := T.b3
    have hc : o.cls = .type "dict" := by obtain ⟨es, ep, hx, _⟩ := h3; exact hx.1
    refine ⟨.ref a, .inl h1, fun Z φ hZ => .dct (obj (h2 _ hΦ) (by rw [hc]; decide +kernel) Z hZ) h3 ?_ h4.keys h4.rel⟩
    rw [beq_eq_false_iff_ne]; exact Nat.ne_of_gt (big a hn).2.2.2
end
section
open PySem PySem.W PyProof.Rows PySem.Calls
set_option Elab.async false
set_option linter.unusedVariables false
set_option maxRecDepth 100000
/-- the law's contract -/
inductive lawSpec (args : List AV) (kws : List (Str × AV)) (led : List MO) (Q : AV → List MO → Prop) : Prop
  | mk : kws = [] → ∀ a script, args = [a] → LstOf led a (ai script) → script.length ≤ 63 → led = [] → (∀ led', Q (.bool true) led') → lawSpec args kws led Q

theorem law_def {w : World} {mg : Str → Option Value} {s₀ s₁ : Shared} (hP : TopP w mg s₀ s₁) : isTheDefsW pw s₁.heap "law" ∧ ∃ a mg', s₁.heap.Ns mainGlobals mg' ∧ mg' "law" = some (.ref a) := by
  obtain ⟨h₀, c, Pl, mg', ps, Φ, hk, hPl, X, T⟩ := hP.ex
  obtain ⟨lo, hi, a, c', P', dV, kV, pm, doc, e, D⟩ := T.defs 22 (by decide)
  have hn : fName (sN 22) = Str.ofString "law" := dNames_ok (22, "law") (by decide +kernel)
  rw [hn] at e
  have F := D.f _ X.phi
  refine ⟨⟨a, _, _, fArgs (sN 22), fBody (sN 22), fScope (sN 22), (ns_glob X.main.g _).trans e, F.o, rfl, by kernel_rfl, hn, hn, rfl, rfl, rfl, rfl, rfl, rfl, ?_, ?_⟩, a, mg', X.main.g, e⟩
  · have hd : (fArgs (sN 22)).defaults = [] := by kernel_rfl
    rcases D.d with ⟨_, e⟩ | ⟨T, vs, hne, _, _, hcv, _⟩
    · exact .inl ⟨hd, e⟩
    · rw [hd] at hcv
      cases vs with
      | nil => exact absurd rfl hne
      | cons => exact hcv.elim
  · exact ⟨[], by kernel_rfl, .inl ⟨rfl, D.k (by kernel_rfl)⟩⟩

theorem well1 : rw0.wellSaid = true := by decide +kernel
theorem well2 : rw0.row.wellSaid = true := by
  have h := well1
  unfold OpenLaw.wellSaid at h
  simp only [Bool.and_eq_true] at h
  exact h.1.1.1.1.1.1.1.1.1.1.1.1.1.1.1.1.1.1
theorem frees0 : (frees rw0.row.toRowW && rw0.row.within.isEmpty) = true := by decide +kernel
theorem promised0 : rw0.row.toRowW.promised := ⟨[.list []], by decide +kernel, by decide +kernel⟩
theorem bare0 : pw.bare := ⟨rfl, rfl, rfl, rfl, by kernel_rfl, by decide +kernel⟩
theorem opens0 : opensWell pw = true := by decide +kernel

open Classical in
noncomputable def Z0 (B : Base) : Fz := fun b => if ∃ t ∈ B.tabs, t.P = b then none else B.H.get? b

theorem inv0 {B : Base} {s : Shared} (hH : s.heap = B.H) (ht : ∀ t ∈ B.tabs, t.c < B.H.objs.size ∧ t.P < B.H.objs.size ∧ B.H.IsCode t.c t.P #[] ∧ B.H.TableAt t.c t.P #[]) (hg : s.gens = #[]) (ho : s.os = B.os) : Inv B (Z0 B) (ledE B (Z0 B) [] [] ++ []) s where
  fz := fun b o e => by
    unfold Z0 at e
    split at e
    · cases e
    · rw [hH]; exact e
  base := fun b o e t => by
    unfold Z0
    rw [if_neg]
    · exact e
    · rintro ⟨t', h1, h2⟩; exact t t' h1 h2
  ent := fun p hp => by simp [ledE] at hp
  nd := by simp [ledE]
  dj := fun p hp => by simp [ledE] at hp
  hi := fun p hp => by simp [ledE] at hp
  tab := fun t h => ⟨#[], hH ▸ (ht t h).2.2.1, hH ▸ (ht t h).2.2.2, fun pos c hc => by simp [codeAmong] at hc⟩
  tz := fun t h => by unfold Z0; rw [if_pos ⟨t, h, rfl⟩]
  tlo := fun t h => ⟨(ht t h).1, (ht t h).2.1⟩
  old := hH ▸ OldK.refl _
  gens := hg
  os := ho

theorem join (hlaw : ∀ B : Base, Ready B → SpecOK B 20 (.fn "law") lawSpec) : rw0.Holds := by
  refine ⟨well1, well2, promised0, ⟨bare0, opens0, rfl⟩, promised0.imp fun args h => ⟨h.1, (Bool.and_eq_true_iff.mp h.2).1⟩, fun w => ⟨(head w).1, fun s hs => ?_⟩⟩
  obtain ⟨s₀, hf, hg0, s₁, hT, hz, hg1, mb, mg, c, Pl, hB, hP⟩ := (head w).2 s hs
  obtain ⟨hlawd, a, mg', hmg, hal⟩ := law_def hP
  refine ⟨s₀, hf, hg0, s₁, hT, fun n hn => ?_, (fun x hx => nomatch hx), (fun x hx => nomatch hx), ?_⟩
  · have : n = "law" := by
      have h : n ∈ [(Str.ofString "law")] := hn
      simpa using h
    rw [this]; exact hlawd
  refine ClaimW.callFrom_of_specG (c := rw0.row.toRowW.claim) (tree := fun vs => do match ← nsGet mainNs rw0.row.name with
      | some f => do ret (← call f vs)
      | none => unsupported "claim.caller:no-such-global") hz hg1 fun args hpre hlay ord hord => ?_
  obtain ⟨ns, rfl, hlen⟩ := pre_ints hpre
  obtain ⟨vs, tk, hlaid, hvs⟩ := lay_args (R := rw0.row.toRowW.claim.records) (cl := classAt s₁.heap) (P := w.params) (ord := ord) ns s₁
  refine ⟨_, _, hlaid, ?_⟩
  have keeps := layAllW_keeps _ _ _ hlaid
  have hal' := layAllW_rest _ _ _ hlaid
  obtain ⟨as, hrd, hin, hold⟩ := reads_layAllW hord _ _ _ hlaid hlay _ (fun _ _ e => e)
  have L : Laid rw0.row.toRowW.claim.records w s₁ _ _ _ as := ⟨⟨ord, hord, hlaid⟩, hrd, hin, hold, keeps, hal'.1.trans hg1, hal'.2.2.1⟩
  obtain ⟨f1, f2⟩ := Bool.and_eq_true_iff.mp frees0
  obtain ⟨hsame, hu, ha, hap, hm⟩ := frees_parts f1
  have hwi : rw0.row.toRowW.claim.within = [] := List.isEmpty_iff.mp f2
  have hi := ident_freeW hu ha hap
  obtain ⟨B, mg2, hBp, hBw, hBH, hBo, hR, htab, hBm, hmg2⟩ := mkBase hB hP vs
  have htab' : ∀ t ∈ B.tabs, t.c < B.H.objs.size ∧ t.P < B.H.objs.size ∧ B.H.IsCode t.c t.P #[] ∧ B.H.TableAt t.c t.P #[] := fun t ht => by
    obtain ⟨h1, h2, h3, h4⟩ := htab t ht
    rw [hBH, Heap.size_push]
    exact ⟨Nat.lt_succ_of_lt h1, Nat.lt_succ_of_lt h2, h3.push _, h4.push _⟩
  have I := inv0 (B := B) (s := { s₁ with heap := s₁.heap.push (lst vs), toks := tk }) hBH.symm htab' hg1 hBo.symm
  have hbase : BaseIn B (Z0 B) := I.base
  obtain ⟨v, hv, hrel⟩ := hR.glob (22, "law") (by decide)
  have hvl := hrel (Z0 B) [] hbase
  have hva : v = .ref a := by
    have : mg2 = mg' := by
      funext x; rw [← ns_glob hmg2 x, ns_glob hmg x]
    rw [hBm, this] at hv
    rcases hv with h | ⟨h, _⟩
    · exact (Option.some.inj (hal.symm.trans h)).symm
    · exact absurd (h.symm.trans hal) (by simp)
  have hlist : RelVs B (Z0 B) [] [.ref s₁.heap.objs.size] [.lst (ai ns)] := by
    refine .cons (.lst (items := vs.toArray) (n := 0) ?_ (by simpa [ai] using hvs B (Z0 B) [])) .nil
    refine hbase _ _ (by rw [hBH]; exact Heap.get?_push_size _ rfl) fun t ht => ?_
    exact Nat.ne_of_lt (htab t ht).2.1
  have hc := hlaw B hR callerA (Z0 B) [] [] _ v [.ref s₁.heap.objs.size] [] [.lst (ai ns)] [] [] (fun av _ => av = .bool true) ⟨rfl, by decide, by decide⟩ hvl hlist .nil rfl I
    ⟨rfl, _, ns, rfl, .fz _, hlen, rfl, fun _ => rfl⟩
  rw [hBp, hBw, hva] at hc
  refine wpAny_bind (wpAny_nsGet (hmg.push (lst vs)) ?_)
  rw [show mg' rw0.row.name = some (.ref a) from hal]
  refine wpAny_bind (wpAny_call (codeAny_mono hc fun r s' ⟨v', Z', φ', led', av, hr, hx, hrv, hl', I', hq⟩ => ?_))
  subst hr hq
  obtain rfl := hrv.bool_i
  refine wpAny_pure ⟨_, rfl, ?_⟩
  have g : GoodWG rw0.row.toRowW.claim (classAt s₁.heap) (ExcName.means s₁.heap) [.list (ns.map WData.int)] { s₁ with heap := s₁.heap.push (lst vs), toks := tk } (.ok (.ret (.bool true))) s' :=
    ⟨.inl ⟨.bool true, .bool true, [], rfl, fun _ => rfl, .bool true, post_true _, fun _ => ⟨List.nodup_nil, fun a ha => nomatch ha⟩⟩, hBH ▸ I'.old, I'.os.trans hBo, .of_eq I'.gens⟩
  have z := g.laid (c := rw0.row.toRowW.claim) hsame hwi hi L
  exact ⟨z.1, z.2.1, z.2.2, fun q => by cases q⟩
end
section
open PySem PySem.W PyProof.Rows PySem.SeqAt
set_option Elab.async false
set_option linter.unusedVariables false
set_option linter.unnecessarySimpa false
set_option linter.unusedSimpArgs false
set_option maxRecDepth 100000
/-! ### the plain states -/
structure SSt where
  held : List (Int × Int)
  peaks : List (Int × Int)
  lower : List Int
def stLess (w g : List Int) (done : Int) (s : SSt) (i : Nat) : SSt :=
  if (dgetI s.held (done - 2 ^ i)).isSome then s
  else { s with held := dsetI s.held (done - 2 ^ i) ((dgetI s.held done).getD 0 - w.getD i 0 + g.getD i 0), lower := s.lower ++ [done - 2 ^ i] }
def stPeak (w : List Int) (done : Int) (s : SSt) (i : Nat) : Int := max ((dgetI s.peaks done).getD 0) ((dgetI s.held (done - 2 ^ i)).getD 0 + w.getD i 0)
def stSet (w : List Int) (done : Int) (s : SSt) (i : Nat) : SSt :=
  { s with peaks := dsetI s.peaks (done - 2 ^ i) (min ((dgetI s.peaks (done - 2 ^ i)).getD (stPeak w done s i)) (stPeak w done s i)) }
def stTest (o : List Int) (done : Int) (i : Nat) : Bool := Builtin.bitAnd done (2 ^ i) != 0 && !(Builtin.bitAnd done (o.getD i 0) != 0)
def stStep (w g o : List Int) (done : Int) (s : SSt) (i : Nat) : SSt :=
  if stTest o done i then stSet w done (stLess w g done s i) i else s
def stDone (w g o : List Int) (s : SSt) (done : Int) : SSt := (List.range w.length).foldl (stStep w g o done) s
def stLevel (w g o : List Int) (s : SSt) : SSt := s.lower.foldl (stDone w g o) { s with lower := [] }
def stInit (w : List Int) : SSt := ⟨[(2 ^ w.length - 1, w.getLastD 0)], [(2 ^ w.length - 1, 0)], [2 ^ w.length - 1]⟩
def stRun (w g o : List Int) : Nat → SSt
  | 0 => stInit w
  | k + 1 => stLevel w g o (stRun w g o k)
def stPairs (s : SSt) : List (Int × Int) := s.held.map fun p => (p.2, (dgetI s.peaks p.1).getD 0)
def keptStep (k : List (Int × Int)) (p : Int × Int) : List (Int × Int) := if k = [] ∨ p.2 < (k.getLastD (0, 0)).2 then k ++ [p] else k
def keptOf (l : List (Int × Int)) : List (Int × Int) := l.foldl keptStep []

theorem dgetI_some {l : List (Int × Int)} {k : Int} : (dgetI l k).isSome = true ↔ k ∈ l.map (·.1) := by
  induction l with
  | nil => simp [dgetI]
  | cons p r ih =>
    obtain ⟨a, b⟩ := p
    unfold dgetI
    by_cases h : a = k
    · simp [h]
    · rw [if_neg h, ih]; simp [Ne.symm h]
theorem dsetI_keys_mem {l : List (Int × Int)} {k v : Int} (h : k ∈ l.map (·.1)) : (dsetI l k v).map (·.1) = l.map (·.1) := by
  induction l with
  | nil => simp at h
  | cons p r ih =>
    obtain ⟨a, b⟩ := p
    unfold dsetI
    by_cases e : a = k
    · rw [if_pos e]; rfl
    · rw [if_neg e]
      have : k ∈ r.map (·.1) := by simpa [Ne.symm e] using h
      simp [ih this]
theorem dsetI_keys_not {l : List (Int × Int)} {k v : Int} (h : k ∉ l.map (·.1)) : dsetI l k v = l ++ [(k, v)] := by
  induction l with
  | nil => rfl
  | cons p r ih =>
    obtain ⟨a, b⟩ := p
    simp at h
    unfold dsetI
    rw [if_neg (fun e => h.1 e.symm), ih (by simpa using h.2)]
    rfl
theorem dgetI_dsetI {l : List (Int × Int)} {k v j : Int} : dgetI (dsetI l k v) j = if k = j then some v else dgetI l j := by
  induction l with
  | nil => rfl
  | cons p r ih =>
    obtain ⟨a, b⟩ := p
    unfold dsetI
    by_cases e : a = k
    · subst e; rw [if_pos rfl]; unfold dgetI; split <;> simp [*]
    · rw [if_neg e]; unfold dgetI; rw [ih]
      by_cases e2 : a = j
      · subst e2; rw [if_pos rfl, if_neg (fun h => e h.symm), if_pos rfl]
      · rw [if_neg e2, if_neg e2]
structure SOk (s : SSt) : Prop where
  keys : s.held.map (·.1) = s.peaks.map (·.1)
  nd : (s.held.map (·.1)).Nodup
  low : ∀ d ∈ s.lower, d ∈ s.held.map (·.1)
  len : s.lower.length ≤ s.held.length
/-- s' grew out of s -/
structure SGrow (s s' : SSt) : Prop where
  sub : ∀ d ∈ s.held.map (·.1), d ∈ s'.held.map (·.1)
  len : s.held.length ≤ s'.held.length
theorem SGrow.refl (s : SSt) : SGrow s s := ⟨fun _ h => h, Nat.le_refl _⟩
theorem SGrow.trans {a b c : SSt} (h : SGrow a b) (g : SGrow b c) : SGrow a c := ⟨fun d hd => g.sub d (h.sub d hd), Nat.le_trans h.len g.len⟩
section
variable {w g o : List Int} {done : Int} {s : SSt} {i : Nat}
theorem stLess_mem : done - 2 ^ i ∈ (stLess w g done s i).held.map (·.1) := by
  unfold stLess
  split
  · rename_i h; exact dgetI_some.mp h
  · rename_i h
    have h : (done - 2 ^ i) ∉ s.held.map (·.1) := fun e => h (dgetI_some.mpr e)
    rw [dsetI_keys_not h]; simp
theorem stLess_grow : SGrow s (stLess w g done s i) := by
  unfold stLess
  split
  · exact .refl _
  · rename_i h
    have h : (done - 2 ^ i) ∉ s.held.map (·.1) := fun e => h (dgetI_some.mpr e)
    refine ⟨fun d hd => ?_, ?_⟩
    · dsimp only; rw [dsetI_keys_not h, List.map_append]; exact List.mem_append_left _ hd
    · dsimp only; rw [dsetI_keys_not h]; simp
theorem stStep_grow : SGrow s (stStep w g o done s i) := by
  unfold stStep
  split
  · exact ⟨stLess_grow.sub, stLess_grow.len⟩
  · exact .refl _
theorem stStep_ok (h : SOk s) : SOk (stStep w g o done s i) := by
  unfold stStep
  split
  · unfold stSet stLess
    split
    · rename_i e
      have e := dgetI_some.mp e
      refine ⟨?_, h.nd, h.low, h.len⟩
      dsimp only
      rw [dsetI_keys_mem (h.keys ▸ e)]
      exact h.keys
    · rename_i e
      have e : (done - 2 ^ i) ∉ s.held.map (·.1) := fun h => e (dgetI_some.mpr h)
      refine ⟨?_, ?_, ?_, ?_⟩
      · dsimp only
        rw [dsetI_keys_not e, dsetI_keys_not (h.keys ▸ e)]
        simp [h.keys]
      · dsimp only
        rw [dsetI_keys_not e, List.map_append]
        have := h.nd
        rw [List.nodup_append]
        exact ⟨this, by simp, fun a ha b hb => by simp at hb; subst hb; rintro rfl; exact e ha⟩
      · dsimp only
        rw [dsetI_keys_not e]
        intro d hd
        rcases List.mem_append.mp hd with hd | hd
        · rw [List.map_append]; exact List.mem_append_left _ (h.low d hd)
        · simp at hd; subst hd; simp
      · dsimp only
        rw [dsetI_keys_not e]
        have := h.len
        simp; exact this
  · exact h
theorem foldl_inv {α β : Type} {P : β → Prop} {f : β → α → β} (hf : ∀ b a, P b → P (f b a)) : ∀ (l : List α) (b : β), P b → P (l.foldl f b)
  | [], _, h => h
  | a :: l, b, h => foldl_inv hf l _ (hf b a h)
theorem foldl_grow {α : Type} {f : SSt → α → SSt} (hf : ∀ b a, SGrow b (f b a)) : ∀ (l : List α) (b : SSt), SGrow b (l.foldl f b)
  | [], _ => .refl _
  | a :: l, b => (hf b a).trans (foldl_grow hf l _)
theorem foldl_take {α β : Type} (f : β → α → β) (b : β) (l : List α) (k : Nat) : l.foldl f b = (l.drop k).foldl f ((l.take k).foldl f b) := by
  rw [← List.foldl_append, List.take_append_drop]
theorem stDone_grow : SGrow s (stDone w g o s done) := foldl_grow (fun _ _ => stStep_grow) _ _
theorem stDone_ok (h : SOk s) : SOk (stDone w g o s done) := foldl_inv (fun _ _ h => stStep_ok h) _ _ h
theorem stLevel_grow : SGrow s (stLevel w g o s) := by
  have : SGrow { s with lower := [] } (stLevel w g o s) := foldl_grow (fun _ _ => stDone_grow) _ _
  exact ⟨this.sub, this.len⟩
theorem stLevel_ok (h : SOk s) : SOk (stLevel w g o s) := foldl_inv (P := SOk) (fun _ _ h => stDone_ok h) _ _ ⟨h.keys, h.nd, by simp, by simp⟩
theorem stInit_ok : SOk (stInit w) := ⟨rfl, by simp [stInit], by simp [stInit], by constructor⟩
theorem stRun_ok (k : Nat) : SOk (stRun w g o k) := by
  induction k with
  | zero => exact stInit_ok
  | succ k ih => exact stLevel_ok ih
theorem stRun_grow {j k : Nat} (h : j ≤ k) : SGrow (stRun w g o j) (stRun w g o k) := by
  induction k with
  | zero => obtain rfl : j = 0 := ar31 h
            exact .refl _
  | succ k ih =>
    rcases Nat.lt_or_ge k j with e | e
    · obtain rfl : j = k + 1 := ar32 h e
      exact .refl _
    · exact (ih e).trans stLevel_grow
theorem stLevel_end (h : s.lower = []) : stLevel w g o s = s := by
  unfold stLevel
  rw [h]
  obtain ⟨a, b, c⟩ := s
  dsimp only at h
  subst h
  rfl
theorem stRun_end {j k : Nat} (h : (stRun w g o j).lower = []) (hj : j ≤ k) : stRun w g o k = stRun w g o j := by
  induction k with
  | zero => obtain rfl : j = 0 := ar31 hj
            rfl
  | succ k ih =>
    rcases Nat.lt_or_ge k j with e | e
    · obtain rfl : j = k + 1 := ar32 hj e
      rfl
    · show stLevel w g o (stRun w g o k) = _
      rw [ih e, stLevel_end h]
end
end
section
open PySem PySem.W PyProof.Rows PySem.SeqAt
set_option Elab.async false
set_option linter.unusedVariables false
set_option linter.unnecessarySimpa false
set_option linter.unusedSimpArgs false
set_option maxRecDepth 100000
variable {B : Base} {F : Frm} {σ : St} {Q : AV → St → Prop} {Qn : St → Prop} {Qr : AV → St → Prop}
def stCF (ht : Nat) : Frm := ⟨{ kind := .function, names := [(".0", .local), ("done", .local), ("held", .cell), ("peaks", .cell)], isGenerator := false, isCoroutine := false, more := [] }, none, ht⟩
def stCS : Scope := { kind := .function, names := [(".0", .local), ("done", .local), ("held", .free), ("peaks", .free)], isGenerator := false, isCoroutine := false, more := [] }
theorem two_cells {F : Frm} {env : Env} {x y : Str} (hE : EnvOk F env) (h : (cellsFrom 0 F.sc.names []).map (·.1) = [x, y]) : ∃ c d, env.cells = [(x, c), (y, d)] := by
  have e := hE.celle
  rw [h] at e
  match hc : env.cells, e with
  | [(a, c), (b, d)], e => simp at e; obtain ⟨rfl, rfl⟩ := e; exact ⟨c, d, rfl⟩
  | [], e => simp at e
  | [_], e => simp at e
  | _ :: _ :: _ :: _, e => simp at e
theorem stCF_ok {c q ht pos} : CompFrm ⟨fScope (sN 21), some (c, q), ht⟩ (stCF ht) true stCS (.Name "done" pos) where
  clos := fun env hE => by
    obtain ⟨c, d, hc⟩ := two_cells (x := "peaks") (y := "held") hE (by dsimp only; decide +kernel)
    have hk : cellOf env "peaks" = pure c := by unfold cellOf; rw [hc]; rfl
    have hk2 : cellOf env "held" = pure d := by
      unfold cellOf; rw [hc]
      have : (Str.ofString "held" == Str.ofString "peaks") = false := by constructor
      rfl
    show closureFor stCS env = pure env.cells
    unfold closureFor stCS
    simp only [List.forIn_cons, List.forIn_nil]
    rw [hc, hk, hk2]
    rfl
  rel := fun env he => by
    have he : env.scope = fScope (sN 21) := he
    have h1 : (fScope (sN 21)).names.lookup (Str.ofString "held") = some .cell := by decide +kernel
    have h3 : (fScope (sN 21)).names.lookup (Str.ofString "peaks") = some .cell := by assumption
    have h2 : (fScope (sN 21)).kind = .function := by decide +kernel
    unfold relabel stCS Env.kindOf
    rw [he, h2]
    simp only [List.map_cons, List.map_nil]
    rw [h1, h3]
    rfl
  kind := rfl
  kind' := rfl
  code := rfl
  ht := rfl
  nocell := by decide +kernel
  names := by decide +kernel
  c1 := fun x hx => by
    have := mem_of_lookup' hx
    simp [stCF] at this
    rcases this with rfl | rfl
    · exact ⟨rfl, by dsimp only; decide +kernel⟩
    · exact ⟨rfl, by dsimp only; decide +kernel⟩
  c2 := fun _ x hx => by
    have h1 : ∀ p ∈ (fScope (sN 21)).names, p.2 = .cell → p.1 = "held" ∨ p.1 = "peaks" := by decide +kernel
    have := h1 _ (mem_of_lookup' hx) rfl
    dsimp only at this
    rcases this with rfl | rfl
    · show List.lookup _ (stCF 0).sc.names = _
      assumption
    · show List.lookup _ (stCF 0).sc.names = _
      assumption
  c3 := by simp only [if_true]; show List.map _ (cellsFrom 0 (stCF 0).sc.names []) = _; decide +kernel
  tg := .inl fun _ _ => rfl
theorem sf_done (ht : Nat) : (stCF ht).sc.names.lookup (Str.ofString "done") = some .local := by show List.lookup _ (stCF 0).sc.names = _; decide +kernel
theorem sf_held (ht : Nat) : (stCF ht).sc.names.lookup (Str.ofString "held") = some .cell := by show List.lookup _ (stCF 0).sc.names = _; decide +kernel
theorem sf_peaks (ht : Nat) : (stCF ht).sc.names.lookup (Str.ofString "peaks") = some .cell := by show List.lookup _ (stCF 0).sc.names = _; decide +kernel

theorem dgetl_ai (l : List (Int × Int)) (k : Int) : dgetl (l.map (·.1)) (ai (l.map (·.2))) k = (dgetI l k).map .int := by
  induction l with
  | nil => rfl
  | cons p r ih =>
    obtain ⟨a, b⟩ := p
    show dgetl (a :: r.map (·.1)) (.int b :: ai (r.map (·.2))) k = _
    unfold dgetl dgetI
    split <;> simp [ih]
theorem dgetI_get {l : List (Int × Int)} (hn : (l.map (·.1)).Nodup) {k : Nat} {p} (h : l[k]? = some p) : dgetI l p.1 = some p.2 := by
  induction l generalizing k with
  | nil => simp at h
  | cons q r ih =>
    obtain ⟨a, b⟩ := q
    simp only [List.map_cons, List.nodup_cons] at hn
    cases k with
    | zero => simp at h; subst h; unfold dgetI; simp
    | succ k =>
      have h : r[k]? = some p := by simpa using h
      have hm : p.1 ∈ r.map (·.1) := List.mem_map.mpr ⟨p, List.mem_of_getElem? h, rfl⟩
      unfold dgetI
      rw [if_neg (fun e : a = p.1 => hn.1 (by rw [e]; exact hm))]
      exact ih hn.2 h
theorem keptStep_len (k : List (Int × Int)) (p) : (keptStep k p).length ≤ k.length + 1 := by unfold keptStep; split <;> simp
theorem keptOf_len (l : List (Int × Int)) : (keptOf l).length ≤ l.length := by
  unfold keptOf
  have : ∀ (l : List (Int × Int)) k, (l.foldl keptStep k).length ≤ k.length + l.length := by
    intro l
    induction l with
    | nil => intro k; simp
    | cons p r ih =>
      intro k
      have h1 := ih (keptStep k p)
      have h2 := keptStep_len k p
      simp only [List.foldl_cons, List.length_cons]; exact ar257 h1 h2
  simpa using this l []
def stLed (led : List MO) (s : SSt) : List MO := led ++ [.dict (dI s.held), .dict (dI s.peaks)]
def stLoc (w g o : List Int) (L : Nat) (lev : List Int) : List (Str × AV) := [("weights", .lst (ai w)), ("gains", .lst (ai g)), ("over", .lst (ai o)), ("full", .int (2 ^ w.length - 1)), ("held", .ref L), ("peaks", .ref (L + 1)), ("level", .lst (ai lev))]
def stLoc1 (w g o : List Int) (L : Nat) (lev : List Int) : List (Str × AV) := [("weights", .lst (ai w)), ("gains", .lst (ai g)), ("over", .lst (ai o)), ("full", .int (2 ^ w.length - 1)), ("held", .ref L), ("peaks", .ref (L + 1)), ("level", .lst (ai lev)), ("lower", .ref (L + 2))]
def stLoc2 (w g o : List Int) (L : Nat) (lev : List Int) (d : Int) : List (Str × AV) := [("weights", .lst (ai w)), ("gains", .lst (ai g)), ("over", .lst (ai o)), ("full", .int (2 ^ w.length - 1)), ("held", .ref L), ("peaks", .ref (L + 1)), ("level", .lst (ai lev)), ("lower", .ref (L + 2)), ("done", .int d)]
section
variable {led ext : List MO} {s : SSt}
theorem sl_len : (stLed led s).length = led.length + 2 := by simp [stLed]
theorem sl_h : (stLed led s ++ ext)[led.length]? = some (.dict (dI s.held)) := by simp [stLed]
theorem sl_p : (stLed led s ++ ext)[led.length + 1]? = some (.dict (dI s.peaks)) := by simp [stLed, List.getElem?_append]
theorem sl_x {m : MO} : (stLed led s ++ [m])[led.length + 2]? = some m := by simp [stLed, List.getElem?_append]
theorem sl_seth (x : List (Int × Int)) : (stLed led s ++ ext).set led.length (.dict (dI x)) = stLed led { s with held := x } ++ ext := by simp [stLed, List.set_append]
theorem sl_setp (x : List (Int × Int)) : (stLed led s ++ ext).set (led.length + 1) (.dict (dI x)) = stLed led { s with peaks := x } ++ ext := by simp [stLed, List.set_append]
theorem sl_setx {m m' : MO} : (stLed led s ++ [m]).set (led.length + 2) m' = stLed led s ++ [m'] := by rw [← sl_len (s := s)]; simp
end
theorem nrd_dI (l : List (Int × Int)) : nrM (.dict (dI l)) = true := by
  simp [nrM, dI, nr]
theorem stLed_nr {led s} (h : NrL led) : NrL (stLed led s) := h.app (.of (by simp [nrd_dI]))
theorem dI_len (l : List (Int × Int)) : (dI l).length = l.length := by simp [dI]

theorem st_walk {c q ht w g o K led} (hg : g.length = w.length) (ho : o.length = w.length) (hw0 : 0 < w.length) (hw : w.length ≤ 60) (hK : (stRun w g o K).lower = []) (h2 : 2 ≤ (stRun w g o K).held.length) (h64 : (stRun w g o K).held.length < 64) (hnr : NrL led)
    (gr : GlobIs B "range" (.ty "range")) (gl : GlobIs B "len" (.bi "len")) (gx : GlobIs B "max" (.bi "max")) (gn : GlobIs B "min" (.bi "min")) (gs : GlobIs B "sorted" (.bi "sorted"))
    (h : ∀ loc l', l'.Perm (stPairs (stRun w g o K)) → l'.Pairwise lexle → Qr (.ref (led.length + 2)) ⟨loc, led ++ [.gone, .gone, .list (ap (keptOf l'))]⟩) :
    Boxd (WSs B ⟨fScope (sN 21), some (c, q), ht⟩ (fBody (sN 21)) Qn Qr ⟨[("weights", .lst (ai w)), ("gains", .lst (ai g)), ("over", .lst (ai o))], led⟩) := by
  refine ⟨?_⟩
  refine s_cons ?_
  repeat top_name
  refine r_callb ?_ (fun _ => rfl) (fun _ => rfl)
  refine r_global (by none_booked) gl ?_ (by none_booked)
  refine ⟨_, rfl, ?_⟩
  repeat top_name
  refine k_len (l := ai w) (.fz _) (by simp [ai]; exact ar35 hw) ?_
  refine o_shl (ar0) (by simp [ai]; exact ar258 hw) (by decide +kernel) ?_
  repeat top_name
  have ef : (1 * 2 ^ (((ai w).length : Nat) : Int).toNat - 1 : Int) = 2 ^ w.length - 1 := by simp [ai]
  rw [ef]
  refine s_tup ?_ (fun _ _ => rfl) (fun env he => by cases env; subst he; kernel_rfl)
  refine r_tuple ?_
  repeat top_name
  refine r_dict1 ?_
  repeat top_name
  have hlast : (ai w).getLast? = some (.int (w.getLastD 0)) := by
    cases w with
    | nil => simp at hw0
    | cons a b => unfold ai; rw [List.getLast?_map, List.getLast?_cons, List.getLastD_cons, List.getLastD_eq_getLast?]; rfl
  refine ix_last (l := ai w) (.fz _) hlast ?_
  refine ⟨_, rfl, ?_⟩
  repeat top_name
  refine r_dict1 ?_
  repeat top_name
  refine ⟨_, rfl, ?_⟩
  repeat top_name
  refine r_listz ?_
  repeat top_name
  refine ⟨by exact Nat.succ_pos _, ?_⟩
  repeat top_name
  refine ⟨by simp, ?_⟩
  refine a_tuple ?_ rfl (fun _ => rfl) (fun _ => rfl)
  refine a_name ?_
  repeat top_name
  refine a_name ?_
  repeat top_name
  refine a_name ?_
  repeat top_name
  change WSs _ _ _ _ _ _
  repeat top_name
  obtain ⟨N, hN⟩ : ∃ N, N = (stRun w g o K).held.length := ⟨_, rfl⟩
  have hrun : ∀ j, j ≤ K → (stRun w g o j).held.length < 64 := fun j hj => by have := (stRun_grow (w := w) (g := g) (o := o) hj).len; exact ar13 h64 this
  refine s_while (WJ K fun j => ⟨stLoc w g o led.length (stRun w g o j).lower, stLed led (stRun w g o j)⟩) K ⟨0, ar4, rfl, ?_⟩ ?_
  · simp [stLoc, stLed, stRun, stInit, dI, ai]
  · rintro n σ1 ⟨j, hj, rfl, rfl⟩ -
    have sok := stRun_ok (w := w) (g := g) (o := o) j
    have hl := hrun j hj
    have hlow := sok.len
    refine b_value ?_ (fun _ _ => rfl)
    unfold stLoc
    repeat top_name
    refine t_list (.fz _) (by simp [ai]; exact ar77 hl hlow) ?_
    by_cases he : (stRun w g o j).lower = []
    · rw [he]
      rw [if_neg (by simp [ai])]
      have e1 := stRun_end he hj
      rw [← e1]
      clear e1
      have sokK := stRun_ok (w := w) (g := g) (o := o) K
      generalize stRun w g o K = S at *
      repeat top_name
      refine r_list ?_
      repeat top_name
      refine ⟨by exact Nat.zero_le _, ?_⟩
      refine w_store (by none_booked) (by leaf_len) ?_
      have hm1 : ∀ l : List (Int × Int), (dI l).map (·.1) = l.map (·.1) := fun l => by simp [dI]
      have hm2 : ∀ l : List (Int × Int), (dI l).map (·.2) = ai (l.map (·.2)) := fun l => by simp [dI, ai]
      have wk : Wkn ⟨[("weights", .lst (ai w)), ("gains", .lst (ai g)), ("over", .lst (ai o)), ("full", .int (2 ^ w.length - 1)), ("held", .ref led.length), ("peaks", .ref (led.length + 1)), ("level", .lst (ai [])), ("kept", .ref (led.length + 2))], stLed led S ++ [MO.list []]⟩
          ⟨[("held", .dct (S.held.map (·.1)) (ai (S.held.map (·.2)))), ("peaks", .dct (S.peaks.map (·.1)) (ai (S.peaks.map (·.2)))), ("kept", .ref (led.length + 2))], led ++ [.gone, .gone, .list (ap [])]⟩ := by
        refine .frzD (i := led.length) (d := dI S.held) (loc' := [("held", .dct (S.held.map (·.1)) (ai (S.held.map (·.2)))), ("peaks", .ref (led.length + 1)), ("kept", .ref (led.length + 2))]) sl_h ?_ ?_
        · intro x av e
          have e := get_mem e
          simp at e
          rcases e with ⟨rfl, rfl⟩ | ⟨rfl, rfl⟩ | ⟨rfl, rfl⟩
          · exact ⟨.ref led.length, by one_sign, .inr (by simp [sbd, hm1, hm2])⟩
          · exact ⟨_, by one_sign, .inl rfl⟩
          · exact ⟨_, by one_sign, .inl rfl⟩
        · refine .frzD (i := led.length + 1) (d := dI S.peaks) (loc' := [("held", .dct (S.held.map (·.1)) (ai (S.held.map (·.2)))), ("peaks", .dct (S.peaks.map (·.1)) (ai (S.peaks.map (·.2)))), ("kept", .ref (led.length + 2))]) (by simp [stLed, List.set_append, List.getElem?_append]) ?_ ?_
          · intro x av e
            have e := get_mem e
            simp at e
            rcases e with ⟨rfl, rfl⟩ | ⟨rfl, rfl⟩ | ⟨rfl, rfl⟩
            · exact ⟨_, by one_sign, .inl rfl⟩
            · exact ⟨.ref (led.length + 1), by one_sign, .inr (by simp [sbd, hm1, hm2])⟩
            · exact ⟨_, by one_sign, .inl rfl⟩
          · have e : ((stLed led S ++ [MO.list []]).set led.length .gone).set (led.length + 1) .gone = led ++ [.gone, .gone, .list (ap [])] := by simp [stLed, List.set_append, ap]
            dsimp only
            rw [e]
            exact .refl _
      have wl : (led ++ [MO.gone, .gone, .list (ap [])]).length = (stLed led S ++ [MO.list []]).length := by simp [stLed]
      rw [show (stLed led S).length = led.length + 2 from sl_len]
      refine ss_wkn wk wl ?_
      clear wk wl
      refine s_cons ?_
      refine s_for ?_ (fun _ _ => rfl) (.inl fun _ _ => rfl)
      refine r_callb ?_ (fun _ => rfl) (fun _ => rfl)
      refine r_global (by none_booked) gs ?_ (by none_booked)
      refine ⟨_, rfl, ?_⟩
      refine l_cons ?_ (fun _ => rfl)
      refine r_comp stCF_ok ?_ (fun _ _ => rfl)
      repeat top_name
      have hpl : S.peaks.length = S.held.length := by have h1 := congrArg List.length sokK.keys; simpa using h1.symm
      refine ⟨ap (stPairs S), (S.held.map (·.1)).map fun k => .int k, fun _ => True, [("held", .dct (S.held.map (·.1)) (ai (S.held.map (·.2)))), ("peaks", .dct (S.peaks.map (·.1)) (ai (S.peaks.map (·.2))))], ⟨it_dict, trivial, by simp [ap, stPairs], by simp; exact ar36 h64, ?_, (fun e => by cases e), ?_, ?_⟩, ?_⟩
      · intro x av e
        have := get_mem e
        simp at this
        rcases this with ⟨rfl, rfl⟩ | ⟨rfl, rfl⟩
        · exact ⟨by dsimp only; decide +kernel, by one_sign⟩
        · exact ⟨by dsimp only; decide +kernel, by one_sign⟩
      · intro _ x av hx e
        have h1 : ∀ p ∈ (fScope (sN 21)).names, p.2 = .cell → p.1 = "held" ∨ p.1 = "peaks" := by decide +kernel
        have := h1 _ (mem_of_lookup' hx) rfl
        dsimp only at this
        rcases this with rfl | rfl
        · rw [get_hd] at e
          cases e
          exact get_hd
        · rw [get_tl (nm (by decide)) get_hd] at e
          cases e
          exact get_tl (nm (by decide)) get_hd
      · intro k x y hx hy
        obtain ⟨p, hp, rfl⟩ : AtI S.held k (fun p => .int p.1) x := at_map (by rw [List.map_map] at hx; exact hx)
        obtain rfl : y = .tup [.int p.2, .int ((dgetI S.peaks p.1).getD 0)] := by simp [ap, stPairs, hp] at hy; exact hy.symm
        have hpm : p.1 ∈ S.held.map (·.1) := List.mem_map.mpr ⟨p, List.mem_of_getElem? hp, rfl⟩
        refine a_name ?_
        refine w_store (sf_done _) (by leaf_len) ?_
        refine r_tuple ?_
        refine l_cons ?_ (fun _ => rfl)
        refine r_sub ?_ (fun _ _ => rfl)
        refine r_cell (sf_held _) get_hd ?_ (by decide +kernel)
        refine r_local (sf_done _) (by one_sign) ?_ (by decide +kernel)
        refine ix_dct (x := .int p.2) (by rw [dgetl_ai, dgetI_get sokK.nd hp]; rfl) ?_
        refine l_cons ?_ (fun _ => rfl)
        refine r_sub ?_ (fun _ _ => rfl)
        refine r_cell (sf_peaks _) (by one_sign) ?_ (by decide +kernel)
        refine r_local (sf_done _) (by one_sign) ?_ (by decide +kernel)
        refine ix_dct (x := .int ((dgetI S.peaks p.1).getD 0)) (by
          rw [dgetl_ai]
          have := dgetI_some.mpr (sokK.keys ▸ hpm)
          cases e : dgetI S.peaks p.1 with
          | none => rw [e] at this; cases this
          | some u => rfl) ?_
        refine l_nil ?_
        exact ⟨by simp, rfl, rfl, get_pre _ _⟩
      · repeat top_name
        have hsl : (stPairs S).length = S.held.length := by simp [stPairs]
        refine k_sortp (.fz _) (ar74 h2 hsl) (ar75 h64 hsl) ?_
        intro l' hperm hpw
        have hll : l'.length = (stPairs S).length := hperm.length_eq
        refine ⟨ap l', _, fun k σ1 => σ1 = ⟨[("held", .dct (S.held.map (·.1)) (ai (S.held.map (·.2)))), ("peaks", .dct (S.peaks.map (·.1)) (ai (S.peaks.map (·.2)))), ("kept", .ref (led.length + 2))], led ++ [.gone, .gone, .list (ap (keptOf (l'.take k)))]⟩, it_list, rfl, ?_, ?_, ?_⟩
        · rintro k σ1 rfl; exact .fz _
        · rintro k σ1 x rfl - hx
          obtain ⟨p, hp, rfl⟩ : AtI l' k (fun p => .tup [.int p.1, .int p.2]) x := at_map hx
          have hk : k < l'.length := (List.getElem?_eq_some_iff.mp hp).1
          have ek : keptOf (l'.take (k + 1)) = keptStep (keptOf (l'.take k)) p := by
            unfold keptOf; rw [List.take_add_one, hp, List.foldl_append]; rfl
          have hkl : (keptOf (l'.take k)).length ≤ k := by
            have := keptOf_len (l'.take k)
            simp at this; exact ar259 this
          dsimp only
          rw [ek]
          generalize keptOf (l'.take k) = kp at *
          have hx : (led ++ [MO.gone, .gone, .list (ap kp)])[led.length + 2]? = some (.list (ap kp)) := by simp [List.getElem?_append]
          refine a_name ?_
          repeat top_name
          refine r_listz ?_
          repeat top_name
          refine ⟨by exact Nat.zero_le _, ?_⟩
          refine c_eq_nil (.md hx) (.fz _) ?_
          repeat top_name
          have hset : ∀ p, (led ++ [MO.gone, .gone, .list (ap kp)]).set (led.length + 2) (.list (ap kp ++ [.tup [.int p.1, .int p.2]])) = led ++ [MO.gone, .gone, .list (ap (kp ++ [p]))] := fun p => by simp [List.set_append, ap]
          by_cases hk0 : kp = []
          · have ek' : keptStep kp p = kp ++ [p] := by unfold keptStep; rw [if_pos (.inl hk0)]
            rw [if_pos (by rw [hk0]; rfl)]
            refine s_cons ?_
            refine s_expr ?_ rfl (fun _ => rfl)
            refine r_meth PySem.F.plainAttrs_list PySem.F.slot_list_append PySem.F.type_list_append (fun _ => rfl) (fun _ => rfl) rfl ?_
            repeat top_name
            refine m_append hx (fun _ => rfl) ?_
            repeat top_name
            refine ⟨_, hx, by simp [ap]; exact ar78 h64 hsl hll hk hkl, ?_⟩
            dsimp only
            rw [hset, ← ek']
            repeat top_name
            exact ⟨_, .names (get_pre [("held", .dct (S.held.map (·.1)) (ai (S.held.map (·.2)))), ("peaks", .dct (S.peaks.map (·.1)) (ai (S.peaks.map (·.2)))), ("kept", .ref (led.length + 2))] _) (.refl _), by simp, rfl⟩
          · obtain ⟨q, hq⟩ : ∃ q, kp.getLast? = some q := ⟨kp.getLast hk0, List.getLast?_eq_some_getLast hk0⟩
            have hqd : kp.getLastD (0, 0) = q := by rw [List.getLastD_eq_getLast?, hq]; rfl
            have hql : (ap kp).getLast? = some (.tup [.int q.1, .int q.2]) := by unfold ap; rw [List.getLast?_map, hq]; rfl
            rw [if_neg (by cases kp with | nil => exact absurd rfl hk0 | cons a b => simp [ap])]
            repeat top_name
            refine ix_tup (x := .int p.2) (by constructor) (by decide +kernel) rfl ?_
            repeat top_name
            refine ix_last (l := ap kp) (.md hx) hql ?_
            repeat top_name
            refine ix_tup (x := .int q.2) (by constructor) (by decide +kernel) rfl ?_
            repeat top_name
            by_cases hlt : p.2 < q.2
            · have ek' : keptStep kp p = kp ++ [p] := by unfold keptStep; rw [if_pos (.inr (hqd ▸ hlt))]
              rw [if_pos (by simpa using hlt)]
              refine s_cons ?_
              refine s_expr ?_ rfl (fun _ => rfl)
              refine r_meth PySem.F.plainAttrs_list PySem.F.slot_list_append PySem.F.type_list_append (fun _ => rfl) (fun _ => rfl) rfl ?_
              repeat top_name
              refine m_append hx (fun _ => rfl) ?_
              repeat top_name
              refine ⟨_, hx, by simp [ap]; exact ar78 h64 hsl hll hk hkl, ?_⟩
              dsimp only
              rw [hset, ← ek']
              repeat top_name
              exact ⟨_, .names (get_pre [("held", .dct (S.held.map (·.1)) (ai (S.held.map (·.2)))), ("peaks", .dct (S.peaks.map (·.1)) (ai (S.peaks.map (·.2)))), ("kept", .ref (led.length + 2))] _) (.refl _), by simp, rfl⟩
            · have ek' : keptStep kp p = kp := by unfold keptStep; rw [if_neg (by rw [hqd]; exact fun h => h.elim hk0 hlt)]
              rw [if_neg (by simpa using hlt), ek']
              repeat top_name
              exact ⟨_, .names (get_pre [("held", .dct (S.held.map (·.1)) (ai (S.held.map (·.2)))), ("peaks", .dct (S.peaks.map (·.1)) (ai (S.peaks.map (·.2)))), ("kept", .ref (led.length + 2))] _) (.refl _), by simp, rfl⟩
        · rintro σ1 rfl -
          have e0 : l'.take (ap l').length = l' := by simp [ap]
          rw [e0]
          repeat top_name
          exact h _ l' hperm hpw
    · have hne : (ai (stRun w g o j).lower).isEmpty = false := by
        cases e : (stRun w g o j).lower with
        | nil => exact absurd e he
        | cons a b => rfl
      rw [hne, if_pos (by rfl)]
      have hjK : j < K := by
        rcases Nat.lt_or_ge j K with e | e
        · exact e
        · obtain rfl : j = K := ar30 hj e
          exact absurd hK he
      repeat top_name
      refine r_list ?_
      repeat top_name
      refine ⟨by exact Nat.zero_le _, ?_⟩
      repeat top_name
      have hrun' := hrun (j + 1) (ar37 hjK)
      have eS : stRun w g o (j + 1) = stLevel w g o (stRun w g o j) := rfl
      rw [eS] at hrun'
      generalize hS : stRun w g o j = S at *
      unfold stLevel at hrun'
      obtain ⟨S0, hS0⟩ : ∃ S0 : SSt, S0 = { S with lower := [] } := ⟨_, rfl⟩
      rw [← hS0] at hrun'
      have sok0 : SOk S0 := by rw [hS0]; exact ⟨sok.keys, sok.nd, by simp, by simp⟩
      refine s_for ?_ (fun _ _ => rfl) (.inl fun _ _ => rfl)
      repeat top_name
      refine ⟨ai S.lower, _, fun k σ1 => σ1 = ⟨stLoc1 w g o led.length S.lower, stLed led ((S.lower.take k).foldl (stDone w g o) S0) ++ [.list (ai ((S.lower.take k).foldl (stDone w g o) S0).lower)]⟩, it_list, ?_, ?_, ?_, ?_⟩
      · simp [stLoc1, sl_len, hS0, ai, stLed]
      · rintro k σ1 rfl; exact .fz _
      · rintro k σ1 x rfl - hx
        obtain ⟨d, hd, rfl⟩ : AtI S.lower k (fun d => .int d) x := at_map hx
        have ek : (S.lower.take (k + 1)).foldl (stDone w g o) S0 = stDone w g o ((S.lower.take k).foldl (stDone w g o) S0) d := by
          rw [List.take_add_one, hd, List.foldl_append]; rfl
        have tok : SOk ((S.lower.take k).foldl (stDone w g o) S0) := foldl_inv (P := SOk) (fun _ _ h => stDone_ok h) _ _ sok0
        have tg : SGrow S0 ((S.lower.take k).foldl (stDone w g o) S0) := foldl_grow (fun _ _ => stDone_grow) _ _
        have hdm : d ∈ ((S.lower.take k).foldl (stDone w g o) S0).held.map (·.1) := tg.sub d (by rw [hS0]; exact sok.low d (List.mem_of_getElem? hd))
        have hT : (stDone w g o ((S.lower.take k).foldl (stDone w g o) S0) d).held.length < 64 := by
          have h1 : SGrow ((S.lower.take (k + 1)).foldl (stDone w g o) S0) (S.lower.foldl (stDone w g o) S0) := by
            rw [foldl_take _ S0 S.lower (k + 1)]; exact foldl_grow (fun _ _ => stDone_grow) _ _
          rw [ek] at h1
          have := h1.len; exact ar13 hrun' this
        dsimp only
        rw [ek]
        generalize (S.lower.take k).foldl (stDone w g o) S0 = T at *
        unfold stLoc1
        refine a_name ?_
        repeat top_name
        refine s_for ?_ (fun _ _ => rfl) (.inl fun _ _ => rfl)
        refine r_callt ?_ (fun _ => rfl) (fun _ => rfl)
        refine r_global (by none_booked) gr ?_ (by none_booked)
        refine ⟨_, rfl, ?_⟩
        refine l_cons ?_ (fun _ => rfl)
        refine r_callb ?_ (fun _ => rfl) (fun _ => rfl)
        refine r_global (by none_booked) gl ?_ (by none_booked)
        refine ⟨_, rfl, ?_⟩
        repeat top_name
        refine k_len (l := ai w) (.fz _) (by simp [ai]; exact ar35 hw) ?_
        repeat top_name
        refine k_range ?_
        refine ⟨upTo (ai w).length, fun _ => True, fun i σ1 => σ1 = ⟨stLoc2 w g o led.length S.lower d, stLed led (((List.range w.length).take i).foldl (stStep w g o d) T) ++ [.list (ai (((List.range w.length).take i).foldl (stStep w g o d) T).lower)]⟩, it_rng (by simp [ai]; exact ar35 hw), ?_, fun _ _ _ => trivial, ?_, ?_⟩
        · simp [stLoc2]
        · rintro i σ1 x rfl - hx
          obtain ⟨hi, rfl⟩ : i < w.length ∧ x = .int (i : Nat) := by
            have h1 : i < w.length := by have := (List.getElem?_eq_some_iff.mp hx).1; simpa [upTo, ai] using this
            refine ⟨h1, ?_⟩
            simp [upTo, ai, h1] at hx
            exact hx.symm
          have ei : ((List.range w.length).take (i + 1)).foldl (stStep w g o d) T = stStep w g o d (((List.range w.length).take i).foldl (stStep w g o d) T) i := by
            rw [List.take_add_one, List.getElem?_range hi, List.foldl_append]; rfl
          have uok : SOk (((List.range w.length).take i).foldl (stStep w g o d) T) := foldl_inv (P := SOk) (fun _ _ h => stStep_ok h) _ _ tok
          have ug : SGrow T (((List.range w.length).take i).foldl (stStep w g o d) T) := foldl_grow (fun _ _ => stStep_grow) _ _
          have hU : (stStep w g o d (((List.range w.length).take i).foldl (stStep w g o d) T) i).held.length < 64 := by
            have h1 : SGrow (((List.range w.length).take (i + 1)).foldl (stStep w g o d) T) (stDone w g o T d) := by
              unfold stDone
              rw [foldl_take _ T (List.range w.length) (i + 1)]; exact foldl_grow (fun _ _ => stStep_grow) _ _
            rw [ei] at h1
            have := h1.len; exact ar13 hT this
          have hdu := ug.sub d hdm
          dsimp only
          rw [ei]
          generalize ((List.range w.length).take i).foldl (stStep w g o d) T = U at *
          have hU0 : U.held.length < 64 := by have := (stStep_grow (w := w) (g := g) (o := o) (done := d) (s := U) (i := i)).len; exact ar13 hU this
          unfold stLoc2
          refine a_name ?_
          repeat top_name
          have e2i : (1 * 2 ^ ((i : Nat) : Int).toNat : Int) = 2 ^ i := by simp
          refine b_value ?_ (fun _ _ => rfl)
          repeat top_name
          refine o_shl (ar0) (ar79 hw hi) (by decide +kernel) ?_
          refine o_and ?_
          repeat top_name
          rw [e2i]
          by_cases t1 : (Builtin.bitAnd d (2 ^ i) != 0) = true
          · rw [if_pos t1]
            repeat top_name
            refine b_value ?_ (fun _ _ => rfl)
            repeat top_name
            refine ix_list (l := ai o) (x := .int (o.getD i 0)) (.fz _) (ar0) (ar14 hw hi) ?_ ?_
            · have : i < o.length := ar12 ho hi
              simp [ai, this, List.getD_eq_getElem?_getD]
            refine o_and ?_
            repeat top_name
            by_cases t2 : (Builtin.bitAnd d (o.getD i 0) != 0) = true
            · rw [t2]
              rw [if_neg (by simp)]
              refine s_nil ?_
              have e3 : stStep w g o d U i = U := by unfold stStep stTest; rw [t1, t2]; rfl
              rw [e3]
              refine s_nil ?_
              exact ⟨_, .names (get_pre (stLoc2 w g o led.length S.lower d) _) (.refl _), by simp [sl_len], rfl⟩
            · have t2 : (Builtin.bitAnd d (o.getD i 0) != 0) = false := by simpa using t2
              rw [t2]
              rw [if_pos (by rfl)]
              have e3 : stStep w g o d U i = stSet w d (stLess w g d U i) i := by unfold stStep stTest; rw [t1, t2]; rfl
              rw [e3]
              repeat top_name
              refine o_shl (ar0) (ar79 hw hi) (by decide +kernel) ?_
              rw [e2i]
              refine o_sub ?_
              refine w_store (by none_booked) (by leaf_len) ?_
              refine s_cons ?_
              obtain ⟨u1, hu1⟩ : ∃ u, dgetI U.held d = some u := by
                have := dgetI_some.mpr hdu
                cases e : dgetI U.held d with
                | none => rw [e] at this; cases this
                | some u => exact ⟨u, rfl⟩
              have hwi : (ai w)[((i : Nat) : Int).toNat]? = some (.int (w.getD i 0)) := by
                simp [ai, hi, List.getD_eq_getElem?_getD]
              have hgi : (ai g)[((i : Nat) : Int).toNat]? = some (.int (g.getD i 0)) := by
                have : i < g.length := ar12 hg hi
                simp [ai, this, List.getD_eq_getElem?_getD]
              refine ws_mono (P := fun σ' => σ' = ⟨[("weights", .lst (ai w)), ("gains", .lst (ai g)), ("over", .lst (ai o)), ("full", .int (2 ^ w.length - 1)), ("held", .ref led.length), ("peaks", .ref (led.length + 1)), ("level", .lst (ai S.lower)), ("lower", .ref (led.length + 2)), ("done", .int d), ("i", .int (i : Nat)), ("less", .int (d - 2 ^ i))],
                stLed led (stLess w g d U i) ++ [.list (ai (stLess w g d U i).lower)]⟩) ?_ ?_
              · repeat top_name
                refine c_notin (d := dI U.held) sl_h ?_
                repeat top_name
                rw [dget_dI]
                by_cases t3 : (dgetI U.held (d - 2 ^ i)).isSome = true
                · have e4 : stLess w g d U i = U := by unfold stLess; rw [if_pos t3]
                  rw [e4]
                  rw [Option.isSome_map, t3]
                  rw [if_neg (by simp)]
                  exact s_nil rfl
                · have e4 : stLess w g d U i = { U with held := dsetI U.held (d - 2 ^ i) (u1 - w.getD i 0 + g.getD i 0), lower := U.lower ++ [d - 2 ^ i] } := by
                    unfold stLess; rw [if_neg t3, hu1]; rfl
                  have t3 : (dgetI U.held (d - 2 ^ i)).isSome = false := by simpa using t3
                  rw [e4]
                  rw [Option.isSome_map, t3]
                  rw [if_pos (by rfl)]
                  refine s_cons ?_
                  refine s_setitem ?_ (fun _ => rfl)
                  repeat top_name
                  refine ix_dict (d := dI U.held) (x := .int u1) sl_h (by rw [dget_dI, hu1]; rfl) ?_
                  repeat top_name
                  refine ix_list (l := ai w) (.fz _) (ar0) (ar14 hw hi) hwi ?_
                  repeat top_name
                  refine ix_list (l := ai g) (.fz _) (ar0) (ar14 hw hi) hgi ?_
                  repeat top_name
                  refine set_dict (d := dI U.held) sl_h (by rw [dI_len]; exact ar36 hU0) ?_
                  dsimp only
                  rw [dset_dI, sl_seth]
                  repeat top_name
                  refine s_expr ?_ rfl (fun _ => rfl)
                  refine r_meth PySem.F.plainAttrs_list PySem.F.slot_list_append PySem.F.type_list_append (fun _ => rfl) (fun _ => rfl) rfl ?_
                  repeat top_name
                  refine m_append (l₀ := ai U.lower) sl_x (fun _ => rfl) ?_
                  repeat top_name
                  have hUl := uok.len
                  refine ⟨_, sl_x, by simp [ai]; exact ar77 hU0 hUl, ?_⟩
                  dsimp only
                  rw [ai_snoc, sl_setx]
                  repeat top_name
                  rfl
              · rintro σ' rfl
                have hA : (dgetI (stLess w g d U i).held (d - 2 ^ i)).isSome = true := dgetI_some.mpr stLess_mem
                have ep : (stLess w g d U i).peaks = U.peaks := by unfold stLess; split <;> rfl
                have hpk : (dgetI (stLess w g d U i).peaks d).isSome = true := by rw [ep]; exact dgetI_some.mpr (uok.keys ▸ hdu)
                have hpl : (stLess w g d U i).peaks.length < 64 := by
                  rw [ep]
                  have h1 := congrArg List.length uok.keys
                  simp at h1; exact ar260 hU0 h1
                generalize stLess w g d U i = A at *
                have hA' : dget (dI A.held) (d - 2 ^ i) = some (.int ((dgetI A.held (d - 2 ^ i)).getD 0)) := by
                  rw [dget_dI]; cases e : dgetI A.held (d - 2 ^ i) with
                  | none => rw [e] at hA; cases hA
                  | some u => rfl
                have hpk' : dget (dI A.peaks) d = some (.int ((dgetI A.peaks d).getD 0)) := by
                  rw [dget_dI]; cases e : dgetI A.peaks d with
                  | none => rw [e] at hpk; cases hpk
                  | some u => rfl
                repeat top_name
                refine r_callb ?_ (fun _ => rfl) (fun _ => rfl)
                refine r_global (by none_booked) gx ?_ (by none_booked)
                refine ⟨_, rfl, ?_⟩
                repeat top_name
                refine ix_dict (d := dI A.peaks) sl_p hpk' ?_
                repeat top_name
                refine ix_dict (d := dI A.held) sl_h hA' ?_
                repeat top_name
                refine ix_list (l := ai w) (.fz _) (ar0) (ar14 hw hi) hwi ?_
                repeat top_name
                refine k_max ?_
                have e5 : max ((dgetI A.peaks d).getD 0) ((dgetI A.held (d - 2 ^ i)).getD 0 + w.getD i 0) = stPeak w d A i := rfl
                rw [e5]
                repeat top_name
                refine s_setitem ?_ (fun _ => rfl)
                refine r_callb ?_ (fun _ => rfl) (fun _ => rfl)
                refine r_global (by none_booked) gn ?_ (by none_booked)
                refine ⟨_, rfl, ?_⟩
                refine l_cons ?_ (fun _ => rfl)
                refine r_meth PySem.F.plainAttrs_dict PySem.F.slot_dict_get PySem.F.type_dict_get (fun _ => rfl) (fun _ => rfl) rfl ?_
                repeat top_name
                refine m_get2 (d₀ := dI A.peaks) sl_p (fun _ => rfl) ?_
                repeat top_name
                refine ⟨_, dI A.peaks, rfl, sl_p, ?_⟩
                have e6 : (dget (dI A.peaks) (d - 2 ^ i)).getD (.int (stPeak w d A i)) = .int ((dgetI A.peaks (d - 2 ^ i)).getD (stPeak w d A i)) := by
                  rw [dget_dI]; cases dgetI A.peaks (d - 2 ^ i) <;> rfl
                rw [e6]
                repeat top_name
                refine k_min ?_
                repeat top_name
                refine set_dict (d := dI A.peaks) sl_p (by rw [dI_len]; exact ar36 hpl) ?_
                dsimp only
                rw [dset_dI, sl_setp]
                repeat top_name
                exact ⟨_, .names (get_pre (stLoc2 w g o led.length S.lower d) _) (.refl _), by simp [sl_len], rfl⟩
          · have t1 : (Builtin.bitAnd d (2 ^ i) != 0) = false := by simpa using t1
            have e3 : stStep w g o d U i = U := by unfold stStep stTest; rw [t1]; rfl
            rw [e3, t1]
            rw [if_neg (by simp)]
            rw [if_neg (by simp)]
            refine s_nil ?_
            refine s_nil ?_
            exact ⟨_, .names (get_pre (stLoc2 w g o led.length S.lower d) _) (.refl _), by simp [sl_len], rfl⟩
        · rintro σ1 rfl -
          have e0 : (List.range w.length).take (upTo (ai w).length).length = List.range w.length := by simp [upTo, ai]
          rw [e0]
          refine s_nil ?_
          refine ⟨_, .names (get_pre (stLoc1 w g o led.length S.lower) _) (.refl _), by simp [sl_len], rfl⟩
      · rintro σ1 rfl -
        have e0 : S.lower.take (ai S.lower).length = S.lower := by simp [ai]
        rw [e0]
        unfold stLoc1
        repeat top_name
        have eL : S.lower.foldl (stDone w g o) S0 = stLevel w g o S := by rw [hS0]; rfl
        rw [eL]
        have eR : stLevel w g o S = stRun w g o (j + 1) := by rw [← hS]; rfl
        rw [eR]
        generalize hS' : stRun w g o (j + 1) = S' at *
        refine ⟨K - (j + 1), ⟨stLoc w g o led.length S'.lower, stLed led S'⟩, (ar80 hjK), ?_, by simp [sl_len], j + 1, (ar37 hjK), rfl, by rw [hS']; rfl⟩
        refine .frz (i := led.length + 2) (l := ai S'.lower) (loc' := stLoc w g o led.length S'.lower) sl_x ?_ ?_
        · intro x av e
          have e := get_mem e
          simp [stLoc] at e
          rcases e with ⟨rfl, rfl⟩ | ⟨rfl, rfl⟩ | ⟨rfl, rfl⟩ | ⟨rfl, rfl⟩ | ⟨rfl, rfl⟩ | ⟨rfl, rfl⟩ | ⟨rfl, rfl⟩
          · exact ⟨_, by one_sign, .inl rfl⟩
          · exact ⟨_, by one_sign, .inl rfl⟩
          · exact ⟨_, by one_sign, .inl rfl⟩
          · exact ⟨_, by one_sign, .inl rfl⟩
          · exact ⟨_, by one_sign, .inl rfl⟩
          · exact ⟨_, by one_sign, .inl rfl⟩
          · exact ⟨.ref (led.length + 2), by one_sign, .inr (by simp [sb1])⟩
        · rw [sl_setx]
          exact wkn_cut (loc := stLoc w g o led.length S'.lower) (x := []) (stLed_nr hnr) (by
            intro p hp
            rw [sl_len]
            simp [stLoc] at hp
            rcases hp with rfl | rfl | rfl | rfl | rfl | rfl | rfl <;> simp [low, nr, nr_ai])

inductive statesSpec (args : List AV) (kws : List (Str × AV)) (led : List MO) (Q : AV → List MO → Prop) : Prop
  | mk : kws = [] → ∀ w g o K, args = [.lst (ai w), .lst (ai g), .lst (ai o)] → g.length = w.length → o.length = w.length → 0 < w.length → w.length ≤ 60 → (stRun w g o K).lower = [] → 2 ≤ (stRun w g o K).held.length → (stRun w g o K).held.length < 64 → NrL led → (∀ l', l'.Perm (stPairs (stRun w g o K)) → l'.Pairwise lexle → Q (.lst (ap (keptOf l'))) led) → statesSpec args kws led Q
theorem states_spec {c ht} (D : Def B "_law_states" 21 c NoD)
    (gr : GlobIs B "range" (.ty "range")) (gl : GlobIs B "len" (.bi "len")) (gx : GlobIs B "max" (.bi "max")) (gn : GlobIs B "min" (.bi "min")) (gs : GlobIs B "sorted" (.bi "sorted")) :
    SpecOK B (ht + 1) (.fn "_law_states") statesSpec := by
  refine spec_defC D (by decide +kernel) (by decide +kernel) (by decide +kernel) (by decide +kernel) (by decide +kernel) (fun _ _ _ _ h => h.1) ?_
  intro Z φ E s vs args led Q name dV kV doc pm an ct hP I rv ⟨_, w, g, o, K, ha, hg, ho, hw0, hw, hK, h2, h64, hnr, hq⟩
  obtain ⟨rfl, rfl⟩ := hP
  subst ha
  replace rv := rv.cons_i; obtain ⟨v1, _, rfl, r1, rv⟩ := rv
  replace rv := rv.cons_i; obtain ⟨v2, _, rfl, r2, rv⟩ := rv
  replace rv := rv.cons_i; obtain ⟨v3, _, rfl, r3, rv⟩ := rv
  obtain rfl := rv.nil_i
  refine ⟨[("weights", v1), ("gains", v2), ("over", v3)], [("weights", .lst (ai w)), ("gains", .lst (ai g)), ("over", .lst (ai o))], rfl, .cons r1 (.cons r2 (.cons r3 .nil)), nd_names ["weights", "gains", "over"] (by decide +kernel) rfl, loc_names ["weights", "gains", "over"] (by decide +kernel) rfl, ?_⟩
  have key := st_walk (B := B) (c := c) (q := Str.ofString "_law_states" ++ ".<locals>.") (ht := ht) (w := w) (g := g) (o := o) (K := K) (led := led) (Qn := fun σ' => AftN Q led σ'.led)
      (Qr := fun r σ' => Aft Q led r σ'.led) hg ho hw0 hw hK h2 h64 hnr gr gl gx gn gs (fun loc l' h1 h2 => by
        refine ⟨.lst (ap (keptOf l')), led, ?_, Nat.le_refl _, hq l' h1 h2⟩
        dsimp only
        refine rw_frz (i := led.length + 2) (l := ap (keptOf l')) (r' := .lst (ap (keptOf l'))) (by simp [List.getElem?_append]) (by simp [sb, sb1]) ?_
        have e : (led ++ [MO.gone, .gone, .list (ap (keptOf l'))]).set (led.length + 2) .gone = led ++ [.gone, .gone, .gone] := by simp [List.set_append]
        rw [e]
        exact rw_cut hnr (by simp [nr, nrs, ap, nrs_map]))
  with_reducible exact Boxd.get key
end
section
open PySem PySem.W PyProof.Rows PySem.SeqAt
set_option Elab.async false
set_option linter.unusedVariables false
set_option linter.unnecessarySimpa false
set_option linter.unusedSimpArgs false
set_option maxRecDepth 100000
variable {B : Base} {F : Frm} {σ : St} {Q : AV → St → Prop} {Qn : St → Prop} {Qr : AV → St → Prop}
/-- what the plain law says of a script -/
inductive PlainLaw (S7 S1 : Int → Bool) (ks : List Int) (vs : List Str) (sg told : List Int) : Prop
  | mk (ls : List (List Int)) (w g o path K) : sg.length ≤ 1000 → (sg.map Int.toNat).map (symOf S7 S1 ks vs) = ls.map some → (∀ l ∈ ls, l.length ≤ 100) → ls.flatten = told → Reads2 told.reverse → told.length ≤ 60 → 0 < told.length →
    (treeRun told.reverse).w = w → (treeRun told.reverse).g = g → (treeRun told.reverse).o = o → (treeRun told.reverse).p.getLastD [] = path →
    g.length = w.length → o.length = w.length → 0 < w.length → w.length ≤ 60 → path.length ≤ 1000 → (stRun w g o K).lower = [] → 2 ≤ (stRun w g o K).held.length → (stRun w g o K).held.length < 64 →
    (∀ l', l'.Perm (stPairs (stRun w g o K)) → l'.Pairwise lexle → (0 :: path.map (·.2)).zip (path.map (·.1) ++ [0]) = keptOf l') → PlainLaw S7 S1 ks vs sg told
theorem zipw (l m : List Int) : List.zipWith (fun x y => AV.tup [x, y]) (ai l) (ai m) = ap (l.zip m) := by
  induction l generalizing m with
  | nil => rfl
  | cons a l ih =>
    cases m with
    | nil => rfl
    | cons b m => simp only [ai, ap, List.map_cons, List.zipWith_cons_cons, List.zip_cons_cons] at *; rw [ih]
theorem law_walk {c q ht S7 S1 ks vs a script} (hs : LstOf [] a (ai script)) (hz : script.length ≤ 63) (P : PlainLaw S7 S1 ks vs (signsOf (pageRun (drawnOf script))) (toldOf (pageRun (drawnOf script))))
    (hpage : SpecOK B (ht + 2) (.fn "_law_page") pageSpec) (hsym : SpecOK B (ht + 2) (.fn "_law_symbols") (symSpec S7 S1 ks vs)) (htree : SpecOK B (ht + 6) (.fn "_law_tree") treeSpec) (hst : SpecOK B (ht + 1) (.fn "_law_states") statesSpec)
    (gp : GlobIs B "_law_page" (.fn "_law_page")) (gs : GlobIs B "_law_symbols" (.fn "_law_symbols")) (gt : GlobIs B "_law_tree" (.fn "_law_tree")) (gst : GlobIs B "_law_states" (.fn "_law_states"))
    (gl : GlobIs B "list" (.ty "list")) (gz : GlobIs B "zip" (.ty "zip"))
    (h : ∀ σ, Qr (.bool true) σ) :
    Boxd (WSs B ⟨fScope (sN 22), some (c, q), ht + 6⟩ (fBody (sN 22)) Qn Qr ⟨[("script", a)], []⟩) := by
  refine ⟨?_⟩
  refine s_cons ?_
  refine s_tup ?_ (fun _ _ => rfl) (fun _ _ => rfl)
  refine r_callf ?_ (fun _ => rfl)
  refine r_global (by none_booked) gp ?_ (by none_booked)
  refine ⟨.fn _, ?_⟩
  repeat top_name
  refine ⟨pageSpec, ht + 2, hpage, by simp, rfl, a, script, rfl, hs, (ar288 hz), fun i mo e => by simp at e, ?_⟩
  generalize signsOf (pageRun (drawnOf script)) = sg at *
  generalize toldOf (pageRun (drawnOf script)) = told at *
  obtain ⟨ls, w, g, o, path, K, P1, P2, P3, P4, P5, P6, P7, e1, e2, e3, e4, Q1, Q2, Q3, Q4, Q5, Q6, Q7, Q8, Q9⟩ := P
  refine a_tuple ?_ rfl (fun _ => rfl) (fun _ => rfl)
  refine a_name ?_
  repeat top_name
  refine a_name ?_
  repeat top_name
  change WSs _ _ _ _ _ _
  repeat top_name
  refine r_callf ?_ (fun _ => rfl)
  refine r_global (by none_booked) gs ?_ (by none_booked)
  refine ⟨.fn _, ?_⟩
  repeat top_name
  refine ⟨symSpec S7 S1 ks vs, ht + 2, hsym, by simp, rfl, sg.map Int.toNat, ls, rfl, by simpa using P1, P2, P3, ?_⟩
  rw [P4]
  repeat top_name
  refine r_listz ?_
  repeat top_name
  refine ⟨by exact Nat.succ_pos _, ?_⟩
  repeat top_name
  refine o_addl (l := [.int 0]) (m := ai told) (.fz _) (.fz _) (by simp [ai]; exact ar289 P6) ?_
  refine c_ne_ints (l := 0 :: told) (m := 0 :: told) (.md rfl) (.fz _) ?_
  repeat top_name
  rw [if_neg (by simp)]
  repeat top_name
  refine s_tup ?_ (fun _ _ => rfl) (fun _ _ => rfl)
  refine r_callf ?_ (fun _ => rfl)
  refine r_global (by none_booked) gt ?_ (by none_booked)
  refine ⟨.fn _, ?_⟩
  repeat top_name
  refine ⟨treeSpec, ht + 6, htree, by constructor, rfl, 0, told.reverse, w, g, o, path, rfl, by simp, fun i mo e => ?_, P5, by simpa using P6, by simpa using P7, e1, e2, e3, e4, ?_⟩
  · have := List.mem_of_getElem? e
    simp at this
    subst this
    exact nr_ai _
  dsimp only
  refine a_tuple ?_ rfl (fun _ => rfl) (fun _ => rfl)
  refine a_name ?_
  repeat top_name
  refine a_name ?_
  repeat top_name
  refine a_name ?_
  repeat top_name
  refine a_name ?_
  repeat top_name
  change WSs _ _ _ _ _ _
  repeat top_name
  refine r_comp (compfrm0 (by decide +kernel) (by decide +kernel) (by simp only []) (by decide +kernel) (.inr ⟨_, _, _, rfl⟩)) ?_ (fun _ _ => rfl)
  repeat top_name
  refine ⟨ai (path.map (·.1)), ap path, _, [], ⟨it_list, .fz _, by simp [ai, ap], by simp [ap]; exact ar83 Q5, (fun x av e => by cases e), fun _ => rfl, (fun e => by cases e), ?_⟩, ?_⟩
  · intro k x y hx hy
    obtain ⟨p, hp, rfl⟩ : ∃ p, path[k]? = some p ∧ x = .tup [.int p.1, .int p.2] := by
      simp only [ap, List.getElem?_map] at hx
      cases e : path[k]? with
      | none => rw [e] at hx; simp at hx
      | some q => rw [e] at hx; simp at hx; exact ⟨q, rfl, hx.symm⟩
    obtain rfl : y = .int p.1 := by simp [ai, hp] at hy; exact hy.symm
    refine a_tuple ?_ rfl (fun _ => rfl) (fun _ => rfl)
    refine a_name ?_
    refine w_store (by none_booked) (by leaf_len) ?_
    refine a_name ?_
    refine w_store (by none_booked) (by leaf_len) ?_
    change WE _ _ _ _ _
    refine r_local (by none_booked) (by one_sign) ?_ (by none_booked)
    exact ⟨rfl, rfl, fun z av e => by cases e⟩
  repeat top_name
  refine r_listz ?_
  repeat top_name
  refine ⟨by exact Nat.succ_pos _, ?_⟩
  refine o_addl (l := ai (path.map (·.1))) (m := [.int 0]) (.fz _) (.fz _) (by simp [ai]; exact ar84 Q5) ?_
  repeat top_name
  refine r_listz ?_
  repeat top_name
  refine ⟨by exact Nat.succ_pos _, ?_⟩
  refine r_comp (compfrm0 (by decide +kernel) (by decide +kernel) (by decide +kernel) (by decide +kernel) (.inr ⟨_, _, _, rfl⟩)) ?_ (fun _ _ => rfl)
  repeat top_name
  refine ⟨ai (path.map (·.2)), ap path, _, [], ⟨it_list, .fz _, by simp [ai, ap], by simp [ap]; exact ar83 Q5, (fun x av e => by cases e), fun _ => rfl, (fun e => by cases e), ?_⟩, ?_⟩
  · intro k x y hx hy
    obtain ⟨p, hp, rfl⟩ : ∃ p, path[k]? = some p ∧ x = .tup [.int p.1, .int p.2] := by
      simp only [ap, List.getElem?_map] at hx
      cases e : path[k]? with
      | none => rw [e] at hx; simp at hx
      | some q => rw [e] at hx; simp at hx; exact ⟨q, rfl, hx.symm⟩
    obtain rfl : y = .int p.2 := by simp [ai, hp] at hy; exact hy.symm
    refine a_tuple ?_ rfl (fun _ => rfl) (fun _ => rfl)
    refine a_name ?_
    refine w_store (by none_booked) (by leaf_len) ?_
    refine a_name ?_
    refine w_store (by none_booked) (by leaf_len) ?_
    change WE _ _ _ _ _
    refine r_local (by none_booked) (by one_sign) ?_ (by none_booked)
    exact ⟨rfl, rfl, fun z av e => by cases e⟩
  refine o_addl (l := [.int 0]) (m := ai (path.map (·.2))) (.fz _) (.fz _) (by simp [ai]; exact ar290 Q5) ?_
  repeat top_name
  refine r_listzip ?_ (fun _ => rfl)
  refine r_global (by none_booked) gl ?_ (by none_booked)
  refine ⟨rfl, ?_⟩
  refine r_global (by none_booked) gz ?_ (by none_booked)
  refine ⟨rfl, ?_⟩
  repeat top_name
  refine ⟨_, _, ai (0 :: path.map (·.2)), ai (path.map (·.1) ++ [0]), rfl, .fz _, ?_, by simp [ai], by exact Nat.succ_pos _, by simp [ai]; exact ar84 Q5, ?_⟩
  · have e : ai (path.map (·.1) ++ [0]) = ai (path.map (·.1)) ++ [.int 0] := by simp [ai]
    rw [e]; exact .fz _
  rw [zipw]
  refine r_callf ?_ (fun _ => rfl)
  refine r_global (by none_booked) gst ?_ (by none_booked)
  refine ⟨.fn _, ?_⟩
  repeat top_name
  refine ⟨statesSpec, ht + 1, hst, by simp, rfl, w, g, o, K, rfl, Q1, Q2, Q3, Q4, Q6, Q7, Q8, fun i mo e => ?_, ?_⟩
  · have := List.mem_of_getElem? e
    simp at this
    subst this
    exact nr_ai _
  intro l' h1 h2
  refine c_eq_pairs (l := (0 :: path.map (·.2)).zip (path.map (·.1) ++ [0])) (m := keptOf l') (.fz _) (.fz _) ?_
  rw [decide_eq_true (Q9 l' h1 h2)]
  exact h _
theorem SpecOK.up {f : AV} {sp : Spec} {h h' : Nat} (ok : SpecOK B h f sp) (l : h ≤ h') : SpecOK B h' f sp := by
  intro A Z φ E s fv vs ks args kws led Q hr
  exact ok A Z φ E s fv vs ks args kws led Q (hr.le l)
def in7 : Int → Bool := fun k => (rng 12272 12).any (· == k)
def in1 : Int → Bool := fun k => (b1L ++ rng 65024 16).any (· == k)
/-- the whole walk: what is left is the plain law -/
theorem law_spec {B : Base} (R : Ready B)
    (P : ∀ script : List Int, script.length ≤ 63 → PlainLaw in7 in1 (b3D.map (·.1)) (b3D.map (·.2)) (signsOf (pageRun (drawnOf script))) (toldOf (pageRun (drawnOf script)))) : SpecOK B 20 (.fn "law") lawSpec := by
  obtain ⟨cB, DB⟩ := R.bis
  obtain ⟨cI, DI⟩ := R.ins
  obtain ⟨cG, PG, DG, tG⟩ := R.go
  obtain ⟨cP, PP, DP, tP⟩ := R.path
  have G := R.glob
  have d := fun p hp h1 h2 => R.defs p hp h1 h2
  have hbis : ∀ k, SpecOK B (k + 1) (.fn "bisect_left") (bisSpec B k) := fun k => bisect_ok DB (R.blt "len" (by exact .head _))
  have hins : ∀ k, SpecOK B (k + 2) (.fn "insort_left") (insSpec B k) := fun k => insort_ok DI (hbis k) (G (2, "bisect_left") (by decide +kernel))
  have hgo : ∀ k, SpecOK B (k + 3) (.fn "_law_go") goSpec := fun k => go_ok DG tG (hbis (k + 1)) (G (2, "bisect_left") (by decide +kernel))
  have hpath : ∀ k, SpecOK B (k + 5) (.fn "_law_path") pathSpec := fun k => path_ok DP tP (hins (k + 1)) (hgo (k + 1)) (G (1, "insort_left") (by decide +kernel)) (G (18, "_law_go") (by decide +kernel))
  obtain ⟨c1, D1⟩ := d (14, "ISEOF") (by decide +kernel) (by decide) (by decide)
  have heof : ∀ k, SpecOK B (k + 1) (.fn "ISEOF") eofSpec := fun k => eof_ok D1 R.eof
  obtain ⟨c2, D2⟩ := d (13, "ISNONTERMINAL") (by decide +kernel) (by decide) (by decide)
  have hnt : ∀ k, SpecOK B (k + 1) (.fn "ISNONTERMINAL") ntSpec := fun k => nt_ok D2 R.nt
  obtain ⟨c3, D3⟩ := d (20, "_law_tree") (by decide +kernel) (by decide) (by decide)
  have htree : ∀ k, SpecOK B (k + 6) (.fn "_law_tree") treeSpec := fun k => tree_spec D3 (heof k) (hnt k) (hpath k) (G (14, "ISEOF") (by decide +kernel)) (G (13, "ISNONTERMINAL") (by decide +kernel)) (G (19, "_law_path") (by decide +kernel)) (R.typ "range" (by exact .head _)) (R.blt "len" (by exact .head _)) (R.blt "sum" (by decide +kernel))
  obtain ⟨c4, D4⟩ := d (9, "in_table_c7") (by decide +kernel) (by decide) (by decide)
  obtain ⟨c5, D5⟩ := d (5, "in_table_b1") (by decide +kernel) (by decide) (by decide)
  obtain ⟨c6, D6⟩ := d (7, "map_table_b3") (by decide +kernel) (by decide) (by decide)
  obtain ⟨c7, D7⟩ := d (17, "_law_symbols") (by decide +kernel) (by decide) (by decide)
  have go := R.blt "ord" (by decide +kernel)
  have hsym : ∀ k, SpecOK B (k + 2) (.fn "_law_symbols") (symSpec in7 in1 (b3D.map (·.1)) (b3D.map (·.2))) := fun k =>
    sym_ok D7 (c7_ok D4 go R.c7) (b1_ok D5 go R.b1) (b3_ok D6 go R.b3) (G (9, "in_table_c7") (by decide +kernel)) (G (5, "in_table_b1") (by decide +kernel)) (G (7, "map_table_b3") (by decide +kernel)) go
  obtain ⟨c8, D8⟩ := d (16, "_law_page") (by decide +kernel) (by decide) (by decide)
  have hpage : ∀ k, SpecOK B (k + 2) (.fn "_law_page") pageSpec := fun k => page_ok D8 (R.blt "len" (by exact .head _)) go (R.blt "chr" (by decide +kernel))
  obtain ⟨c9, D9⟩ := d (21, "_law_states") (by decide +kernel) (by decide) (by decide)
  have hst : ∀ k, SpecOK B (k + 1) (.fn "_law_states") statesSpec := fun k => states_spec D9 (R.typ "range" (by exact .head _)) (R.blt "len" (by exact .head _)) (R.blt "max" (by decide +kernel)) (R.blt "min" (by decide +kernel)) (R.blt "sorted" (by decide +kernel))
  obtain ⟨c, D⟩ := d (22, "law") (by decide +kernel) (by decide) (by decide)
  refine SpecOK.up (h := 13 + 7) ?_ (by decide +kernel)
  refine spec_def D (by decide +kernel) (by decide +kernel) (by decide +kernel) (by decide +kernel) ?_
  intro Z φ E s vs ks args kws led Q name dV kV doc pm an ct hP I rv rk ⟨hkw, a, script, ha, hl, hz, hled, hq⟩
  obtain ⟨rfl, rfl⟩ := hP
  subst hkw ha hled
  obtain rfl := rk.nil_i
  replace rv := rv.cons_i; obtain ⟨v1, _, rfl, r1, rv⟩ := rv
  obtain rfl := rv.nil_i
  refine ⟨[("script", v1)], [("script", a)], .of_eq rfl, .cons r1 .nil, nd_names ["script"] (by decide +kernel) rfl, loc_names ["script"] (by decide +kernel) rfl, ?_⟩
  have key := law_walk (B := B) (c := c) (q := Str.ofString "law" ++ ".<locals>.") (ht := 13) (Qn := fun σ' => AftN Q ([] : List MO) σ'.led)
      (Qr := fun r σ' => Aft Q ([] : List MO) r σ'.led) hl hz (P script hz) (hpage 13) (hsym 13) (htree 13) (hst 13)
      (G (16, "_law_page") (by decide +kernel)) (G (17, "_law_symbols") (by decide +kernel)) (G (20, "_law_tree") (by decide +kernel)) (G (21, "_law_states") (by decide +kernel)) (R.typ "list" (by simp)) (R.typ "zip" (by simp))
      (fun σ => ⟨_, σ.led, .refl _ _, by simp, hq _⟩)
  with_reducible exact Boxd.get key
theorem law_holds (P : ∀ script : List Int, script.length ≤ 63 → PlainLaw in7 in1 (b3D.map (·.1)) (b3D.map (·.2)) (signsOf (pageRun (drawnOf script))) (toldOf (pageRun (drawnOf script)))) : rw0.Holds :=
  join fun B R => law_spec R P
end
end Mine
end
section
open PySem PySem.W PyProof.Rows PySem.SeqAt
set_option Elab.async false
set_option linter.unusedVariables false
set_option linter.unnecessarySimpa false
set_option linter.unusedSimpArgs false
namespace Mine
/-! ### the kept pairs are the staircase -/
/-- strictly up and strictly down -/
def Stair (T : List (Int × Int)) : Prop := T.Pairwise fun p q => p.1 < q.1 ∧ q.2 < p.2
def Below (p q : Int × Int) : Prop := p.1 ≤ q.1 ∧ p.2 ≤ q.2
theorem kept_stair (l : List (Int × Int)) : ∀ (A C : List (Int × Int)), Stair (A ++ C) → l.Pairwise lexle → (∀ c ∈ C, c ∈ l) → (∀ p ∈ l, ∃ t ∈ A ++ C, Below t p) → l.foldl keptStep A = A ++ C := by
  induction l with
  | nil =>
    intro A C _ _ h _
    cases C with
    | nil => simp
    | cons c C => exact absurd (h c List.mem_cons_self) (by simp)
  | cons p l ih =>
    intro A C hT hl hC hB
    rw [List.pairwise_cons] at hl
    rw [List.foldl_cons]
    by_cases hp : ∃ C', C = p :: C'
    · obtain ⟨C', rfl⟩ := hp
      have e : keptStep A p = A ++ [p] := by
        unfold keptStep
        rw [if_pos]
        by_cases hA : A = []
        · exact .inl hA
        · right
          have hm : A.getLastD (0, 0) ∈ A := by
            rw [List.getLastD_eq_getLast?, List.getLast?_eq_some_getLast hA]; exact List.getLast_mem hA
          exact ((List.pairwise_append.mp hT).2.2 _ hm p List.mem_cons_self).2
      rw [e]
      have e2 : A ++ p :: C' = (A ++ [p]) ++ C' := by simp
      rw [e2] at hT hB ⊢
      refine ih _ _ hT hl.2 (fun c hc => ?_) fun q hq => hB q (List.mem_cons_of_mem _ hq)
      rcases List.mem_cons.mp (hC c (List.mem_cons_of_mem _ hc)) with rfl | h
      · have := (List.pairwise_append.mp hT).2.2 c (by simp) c hc
        lia
      · exact h
    · have hlow : ∀ c ∈ C, lexle p c := fun c hc => by
        rcases List.mem_cons.mp (hC c hc) with rfl | h
        · exact .inr ⟨rfl, Int.le_refl _⟩
        · exact hl.1 c h
      obtain ⟨t, ht, hb⟩ := hB p List.mem_cons_self
      have hTC := (List.pairwise_append.mp hT).2.1
      have notC : ∀ c ∈ C, ¬ Below c p := fun c hc hb => by
        obtain ⟨hb1, hb2⟩ := hb
        have e : p = c := by
          obtain ⟨c1, c2⟩ := c
          obtain ⟨p1, p2⟩ := p
          have := hlow _ hc
          unfold lexle at this
          dsimp only at *
          have h1 : p1 = c1 := ar460 hb1 this
          have h2 : p2 = c2 := ar461 hb1 hb2 this
          rw [h1, h2]
        subst e
        cases C with
        | nil => simp at hc
        | cons d C' =>
          rcases List.mem_cons.mp hc with rfl | hc'
          · exact hp ⟨C', rfl⟩
          · have h1 := (List.pairwise_cons.mp hTC).1 p hc'
            have h2 := hlow d List.mem_cons_self
            unfold lexle at h2
            exact ar462 h1 h2
      have htA : t ∈ A := by
        rcases List.mem_append.mp ht with h | h
        · exact h
        · exact absurd hb (notC t h)
      have e : keptStep A p = A := by
        unfold keptStep
        rw [if_neg]
        have hA : A ≠ [] := by rintro rfl; simp at htA
        rintro (h | h)
        · exact hA h
        · rw [List.getLastD_eq_getLast?, List.getLast?_eq_some_getLast hA, Option.getD_some] at h
          obtain ⟨A', hA'⟩ : ∃ A', A = A' ++ [A.getLast hA] := ⟨A.dropLast, (List.dropLast_concat_getLast hA).symm⟩
          generalize A.getLast hA = z at *
          have : z.2 ≤ t.2 := by
            rw [hA'] at htA
            rcases List.mem_append.mp htA with h1 | h1
            · have hTA := (List.pairwise_append.mp hT).1
              rw [hA'] at hTA
              have := (List.pairwise_append.mp hTA).2.2 t h1 z (by exact .head _)
              exact ar463 this
            · simp at h1; subst h1; exact Int.le_refl _
          have := hb.2
          exact ar464 h (by assumption) this
      rw [e]
      refine ih _ _ hT hl.2 (fun c hc => ?_) fun q hq => hB q (List.mem_cons_of_mem _ hq)
      rcases List.mem_cons.mp (hC c hc) with rfl | h
      · exact absurd ⟨Int.le_refl _, Int.le_refl _⟩ (notC c hc)
      · exact h
/-- the pairs' staircase: each step is met from below, each pair is met from below -/
theorem kept_eq {T l : List (Int × Int)} (hT : Stair T) (hl : l.Pairwise lexle) (h1 : ∀ t ∈ T, ∃ p ∈ l, Below p t) (h2 : ∀ p ∈ l, ∃ t ∈ T, Below t p) : keptOf l = T := by
  have := kept_stair l [] T (by assumption) hl (fun c hc => ?_) (by assumption)
  · assumption
  · obtain ⟨p, hp, b1, b2⟩ := h1 c hc
    obtain ⟨t, ht, b3, b4⟩ := h2 p hp
    have e : t = c := by
      apply Classical.byContradiction
      intro hne
      have := (List.pairwise_iff_getElem.mp hT)
      obtain ⟨i, hi, rfl⟩ := List.getElem_of_mem hc
      obtain ⟨j, hj, rfl⟩ := List.getElem_of_mem ht
      rcases Nat.lt_trichotomy i j with h | h | h
      · have := this i j hi hj h; exact ar465 hi b1 hj b3 this
      · subst h; exact hne rfl
      · have := this j i hj hi h; exact ar466 hi b2 hj b4 this
    subst e
    have : p = t := by
      obtain ⟨a, b⟩ := p
      obtain ⟨c, d⟩ := t
      dsimp only at *
      rw [show a = c from ar113 b3 b1, show b = d from ar113 b4 b2]
    subst this
    exact hp
end Mine
end
section
open PySem PySem.W PyProof.Rows PySem.SeqAt
set_option Elab.async false
set_option linter.unusedVariables false
set_option linter.unnecessarySimpa false
set_option linter.unusedSimpArgs false
namespace Mine
/-! ### machines -/
abbrev Sn := Nat → Bool
def Sn.add (S : Sn) (j : Nat) : Sn := fun i => S i || i == j
structure Mac where
  held : Sn → Int
  stp : Sn → Nat → Int → Prop
  fin : Sn → Prop
  ids : Nat → Prop
inductive Run (M : Mac) (x : Int) : Sn → Prop
  | fin {S} : M.fin S → Run M x S
  | step {S j u} : M.stp S j u → M.held S + u ≤ x → Run M x (S.add j) → Run M x S
inductive Move (M : Mac) (x : Int) : Sn → Sn → Prop
  | refl (S) : Move M x S S
  | step {S S' j u} : M.stp S j u → M.held S + u ≤ x → Move M x (S.add j) S' → Move M x S S'
theorem Move.trans {M x S S' S''} (h : Move M x S S') (g : Move M x S' S'') : Move M x S S'' := by
  induction h with
  | refl => exact g
  | step a b _ ih => exact .step a b (ih g)
theorem Move.le {M x y S S'} (h : Move M x S S') (l : x ≤ y) : Move M y S S' := by
  induction h with
  | refl => exact .refl _
  | step a b _ ih => exact .step a (ar85 l b) ih
theorem Run.le {M x y S} (h : Run M x S) (l : x ≤ y) : Run M y S := by
  induction h with
  | fin a => exact .fin a
  | step a b _ ih => exact .step a (ar85 l b) ih
theorem Move.run {M x S S'} (h : Move M x S S') (g : Run M x S') : Run M x S := by
  induction h with
  | refl => exact g
  | step a b _ ih => exact .step a b (ih g)
def Ach (M : Mac) : Sn → List (Int × Int) → Prop
  | S, [] => M.fin S
  | S, p :: q => ∃ S', Move M p.1 S S' ∧ M.held S' ≤ p.2 ∧ Ach M S' q
theorem Ach.pre {M : Mac} {X Y : List (Int × Int)} (h : ∀ S, Ach M S X → Ach M S Y) : ∀ (c : List (Int × Int)) (S : Sn), Ach M S (c ++ X) → Ach M S (c ++ Y)
  | [], S, g => h S g
  | p :: c, S, ⟨S', a, b, g⟩ => ⟨S', a, b, Ach.pre h c S' g⟩
theorem Ach.merge {M : Mac} {a b h : Int} {q : List (Int × Int)} (ha : a ≤ h) : ∀ (mid : List (Int × Int)) (S : Sn), (∀ p ∈ mid, p.1 ≤ h) → Ach M S (mid ++ (a, b) :: q) → Ach M S ((h, b) :: q)
  | [], S, _, ⟨S', m, e, g⟩ => ⟨S', m.le ha, e, g⟩
  | p :: mid, S, hm, ⟨S', m, _, g⟩ => by
    obtain ⟨S'', m', e', g'⟩ := Ach.merge ha mid S' (fun p hp => hm p (List.mem_cons_of_mem _ hp)) g
    exact ⟨S'', (m.le (hm p List.mem_cons_self)).trans m', e', g'⟩

/-! ### canonical paths -/
/-- hills strictly down, valleys strictly up, all above nought -/
structure Canon (p : List (Int × Int)) : Prop where
  st : p.Pairwise fun a b => b.1 < a.1 ∧ a.2 < b.2
  pos : ∀ a ∈ p, 0 < a.1 ∧ 0 < a.2
theorem rank_split {ks : List Int} (x : Int) : (∀ k ∈ ks.take (rank ks x), k < x) ∧ (∀ i k, ks[i]? = some k → i = rank ks x → x ≤ k) := by
  refine ⟨take_rank, fun i k hk e => ?_⟩
  unfold rank at e
  induction ks generalizing i with
  | nil => simp at hk
  | cons a r ih =>
    rw [List.takeWhile_cons] at e
    by_cases h : a < x
    · simp only [h, decide_true, if_true, List.length_cons] at e
      cases i with
      | zero => exact ar291 e
      | succ i => exact ih i (by simpa using hk) (ar292 e)
    · simp [h] at e
      subst e
      simp at hk; exact ar52 h hk
theorem drop_pw {α : Type} {R : α → α → Prop} {l : List α} (h : l.Pairwise R) {i : Nat} {x : α} (e : l[i]? = some x) : ∀ y ∈ l.drop (i + 1), R x y := by
  have hi := (List.getElem?_eq_some_iff.mp e).1
  have e2 : l = l.take i ++ x :: l.drop (i + 1) := by
    have : l.drop i = x :: l.drop (i + 1) := by rw [List.drop_eq_getElem_cons hi]; congr; exact (List.getElem?_eq_some_iff.mp e).2
    rw [← this, List.take_append_drop]
  rw [e2] at h
  exact fun y hy => (List.pairwise_cons.mp (List.pairwise_append.mp h).2.1).1 y hy
/-- what goL does: it cuts the path, and adds or lowers -/
theorem goL_split {c : List (Int × Int)} (hc : Canon c) (a b : Int) :
    (∃ pre mid h v, c = pre ++ (h, v) :: mid ∧ goL c a b = pre ++ [(h, b)] ∧ a < h ∧ b ≤ v ∧ (∀ p ∈ pre, p.2 < b)) ∨
    (∃ pre mid, c = pre ++ mid ∧ goL c a b = pre ++ [(a, b)] ∧ (∀ p ∈ mid, p.1 ≤ a) ∧ (∀ p ∈ pre, a < p.1 ∧ p.2 < b)) := by
  have r1 := rank_split (ks := c.map fun q => -q.1) (-a)
  have r2 := rank_split (ks := c.map (·.2)) b
  have hk := rank_le (c.map fun q => -q.1) (-a)
  have hm := rank_le (c.map (·.2)) b
  simp only [List.length_map] at hk hm
  unfold goL
  dsimp only
  generalize rank (c.map fun q => -q.1) (-a) = k at *
  generalize rank (c.map (·.2)) b = m at *
  have t1 : ∀ p ∈ c.take k, a < p.1 := fun p hp => by
    have := r1.1 (-p.1) (by rw [← List.map_take]; exact List.mem_map.mpr ⟨p, hp, rfl⟩); exact ar293 this
  have t2 : ∀ p ∈ c.take m, p.2 < b := fun p hp => r2.1 p.2 (by rw [← List.map_take]; exact List.mem_map.mpr ⟨p, hp, rfl⟩)
  split
  · rename_i hlt
    left
    have hml : m < c.length := ar3 hk hlt
    have e : c[m]? = some c[m] := List.getElem?_eq_getElem hml
    refine ⟨c.take m, c.drop (m + 1), c[m].1, c[m].2, ?_, ?_, ?_, ?_, t2⟩
    · have : c.drop m = c[m] :: c.drop (m + 1) := List.drop_eq_getElem_cons hml
      show c = c.take m ++ c[m] :: c.drop (m + 1)
      rw [← this, List.take_append_drop]
    · simp [List.getD_eq_getElem?_getD, e]
    · exact t1 c[m] (List.mem_iff_getElem.mpr ⟨m, by rw [List.length_take]; exact ar294 hk hlt, by simp⟩)
    · exact r2.2 m c[m].2 (by rw [List.getElem?_map, e]; rfl) rfl
  · rename_i hge
    right
    refine ⟨c.take k, c.drop k, (List.take_append_drop _ _).symm, rfl, fun p hp => ?_, fun p hp => ⟨t1 p hp, t2 p ?_⟩⟩
    · rcases Nat.lt_or_ge k c.length with hkl | hkl
      · have e : c[k]? = some c[k] := List.getElem?_eq_getElem hkl
        have h1 := r1.2 k (-c[k].1) (by rw [List.getElem?_map, e]; rfl) rfl
        rw [List.drop_eq_getElem_cons hkl] at hp
        rcases List.mem_cons.mp hp with rfl | hp
        · exact ar295 hkl h1
        · have := drop_pw hc.st e p hp; exact ar296 hkl h1 this
      · rw [List.drop_eq_nil_of_le hkl] at hp; simp at hp
    · have : c.take k = (c.take m).take k := by rw [List.take_take]; congr 1; exact ar297 hge
      rw [this] at hp; exact List.mem_of_mem_take hp
theorem goL_canon {c : List (Int × Int)} (hc : Canon c) {a b : Int} (ha : 0 < a) (hb : 0 < b) : Canon (goL c a b) := by
  rcases goL_split hc a b with ⟨pre, mid, h, v, rfl, e, h1, h2, h3⟩ | ⟨pre, mid, rfl, e, h1, h2⟩
  · rw [e]
    obtain ⟨p1, p2, p3⟩ := List.pairwise_append.mp hc.st
    refine ⟨List.pairwise_append.mpr ⟨p1, by simp, fun x hx y hy => ?_⟩, fun x hx => ?_⟩
    · simp at hy; subst hy
      exact ⟨(p3 x hx (h, v) List.mem_cons_self).1, h3 x hx⟩
    · rcases List.mem_append.mp hx with hx | hx
      · exact hc.pos x (List.mem_append_left _ hx)
      · simp at hx; subst hx
        exact ⟨(ar298 ha h1), hb⟩
  · rw [e]
    obtain ⟨p1, p2, p3⟩ := List.pairwise_append.mp hc.st
    refine ⟨List.pairwise_append.mpr ⟨p1, by simp, fun x hx y hy => ?_⟩, fun x hx => ?_⟩
    · simp at hy; subst hy
      exact h2 x hx
    · rcases List.mem_append.mp hx with hx | hx
      · exact hc.pos x (List.mem_append_left _ hx)
      · simp at hx; subst hx
        exact ⟨ha, hb⟩
theorem goL_last {c : List (Int × Int)} (hc : Canon c) (a b : Int) : ∃ pre h, goL c a b = pre ++ [(h, b)] := by
  rcases goL_split hc a b with ⟨pre, mid, h, v, _, e, _⟩ | ⟨pre, mid, _, e, _⟩
  · exact ⟨_, _, e⟩
  · exact ⟨_, _, e⟩
theorem goL_ach {M : Mac} {c : List (Int × Int)} (hc : Canon c) (a b : Int) (q : List (Int × Int)) (S : Sn) (h : Ach M S (c ++ (a, b) :: q)) : Ach M S (goL c a b ++ q) := by
  rcases goL_split hc a b with ⟨pre, mid, hh, v, rfl, e, h1, h2, h3⟩ | ⟨pre, mid, rfl, e, h1, h2⟩
  · rw [e, List.append_assoc]
    rw [List.append_assoc] at h
    refine Ach.pre (fun S g => ?_) pre S h
    refine Ach.merge (a := a) (Int.le_of_lt h1) ((hh, v) :: mid) S (fun p hp => ?_) g
    rcases List.mem_cons.mp hp with rfl | hp
    · exact Int.le_refl _
    · have := (List.pairwise_cons.mp (List.pairwise_append.mp hc.st).2.1).1 p hp
      dsimp only at this; exact ar299 this
  · rw [e, List.append_assoc]
    rw [List.append_assoc] at h
    exact Ach.pre (fun S g => Ach.merge (a := a) (Int.le_refl _) mid S h1 g) pre S h

/-- a split of the path: the valley ahead is within H, and all later hills within x -/
def Dv : Int → List (Int × Int) → Int → Int → Prop
  | v, [], H, _ => v ≤ H
  | v, p :: q, H, x => (v ≤ H ∧ ∀ e ∈ p :: q, e.1 ≤ x) ∨ Dv p.2 q H x
theorem Dv.snoc {a b H x : Int} : ∀ {p : List (Int × Int)} {v : Int}, Dv v (p ++ [(a, b)]) H x ↔ b ≤ H ∨ (Dv v p H x ∧ a ≤ x)
  | [], v => by
    simp only [List.nil_append, Dv, List.mem_singleton]
    constructor
    · rintro (⟨h1, h2⟩ | h)
      · exact .inr ⟨h1, h2 _ rfl⟩
      · exact .inl h
    · rintro (h | ⟨h1, h2⟩)
      · exact .inr h
      · exact .inl ⟨h1, fun e he => by subst he; exact h2⟩
  | p :: q, v => by
    simp only [List.cons_append, Dv]
    rw [Dv.snoc (p := q)]
    constructor
    · rintro (⟨h1, h2⟩ | h | ⟨h1, h2⟩)
      · exact .inr ⟨.inl ⟨h1, fun e he => h2 e (by rcases List.mem_cons.mp he with rfl | h <;> simp [*])⟩, h2 (a, b) (by simp)⟩
      · exact .inl h
      · exact .inr ⟨.inr h1, h2⟩
    · rintro (h | ⟨⟨h1, h2⟩ | h1, h3⟩)
      · exact .inr (.inl h)
      · refine .inl ⟨h1, fun e he => ?_⟩
        rcases List.mem_cons.mp he with rfl | he
        · exact h2 _ List.mem_cons_self
        · rcases List.mem_append.mp he with he | he
          · exact h2 _ (List.mem_cons_of_mem _ he)
          · simp at he; subst he; exact h3
      · exact .inr (.inr ⟨h1, h3⟩)
theorem Dv.app {H x : Int} {q : List (Int × Int)} : ∀ {p : List (Int × Int)} {v : Int}, (Dv v p H x ∧ ∀ e ∈ q, e.1 ≤ x) → Dv v (p ++ q) H x := by
  induction q with
  | nil => intro p v h; simpa using h.1
  | cons e q ih =>
    intro p v h
    have e2 : p ++ e :: q = (p ++ [e]) ++ q := by simp
    rw [e2]
    refine ih ⟨?_, fun y hy => h.2 y (List.mem_cons_of_mem _ hy)⟩
    obtain ⟨a, b⟩ := e
    exact Dv.snoc.mpr (.inr ⟨h.1, h.2 (a, b) List.mem_cons_self⟩)
/-- the last valley of a path with all valleys up is the highest, so a split has a valley -/
theorem Dv.low {H x : Int} : ∀ {p : List (Int × Int)} {v : Int}, Dv v p H x → (∀ e ∈ p, v ≤ e.2) → p.Pairwise (fun a b => a.2 ≤ b.2) → v ≤ H
  | [], v, h, _, _ => h
  | e :: q, v, h, h1, h2 => by
    rcases h with ⟨h, _⟩ | h
    · exact h
    · have := Dv.low h (fun y hy => (List.pairwise_cons.mp h2).1 y hy) (List.pairwise_cons.mp h2).2
      have := h1 e List.mem_cons_self
      exact ar6 (by assumption) this
/-- a hill above x lies ahead of the split -/
theorem Dv.past {H x h v : Int} {r : List (Int × Int)} (hx : x < h) : ∀ {q : List (Int × Int)} {u : Int}, Dv u (q ++ (h, v) :: r) H x → Dv v r H x
  | [], u, g => by
    rcases g with ⟨_, g⟩ | g
    · have := g (h, v) (by exact .head _); dsimp only at this; lia
    · exact g
  | e :: q, u, g => by
    rcases g with ⟨_, g⟩ | g
    · have := g (h, v) (by simp); dsimp only at this; omega
    · exact Dv.past hx g
theorem Dv.head {H x : Int} {X : List (Int × Int)} : ∀ {pre : List (Int × Int)} {u : Int}, Dv u (pre ++ X) H x → (∀ e ∈ pre ++ X, u ≤ e.2) → (pre ++ X).Pairwise (fun a b => a.2 ≤ b.2) → Dv u pre H x
  | [], u, h, h1, h2 => Dv.low h h1 h2
  | e :: q, u, h, h1, h2 => by
    rcases h with ⟨h, g⟩ | h
    · exact .inl ⟨h, fun y hy => g y (by rcases List.mem_cons.mp hy with rfl | hy <;> simp [*])⟩
    · exact .inr (Dv.head h (fun y hy => (List.pairwise_cons.mp h2).1 y hy) (List.pairwise_cons.mp h2).2)
theorem Canon.dv {c : List (Int × Int)} (hc : Canon c) : (∀ e ∈ c, (0 : Int) ≤ e.2) ∧ c.Pairwise (fun a b => a.2 ≤ b.2) :=
  ⟨fun e he => Int.le_of_lt (hc.pos e he).2, hc.st.imp fun h => Int.le_of_lt h.2⟩
theorem goL_dv {c : List (Int × Int)} (hc : Canon c) {a b H x : Int} (h : Dv 0 (c ++ [(a, b)]) H x) : Dv 0 (goL c a b) H x := by
  rw [Dv.snoc] at h
  rcases goL_split hc a b with ⟨pre, mid, hh, v, rfl, e, h1, h2, h3⟩ | ⟨pre, mid, rfl, e, h1, h2⟩
  · rw [e, Dv.snoc]
    rcases h with h | ⟨h, ha⟩
    · exact .inl h
    · by_cases hx : x < hh
      · left
        have g := Dv.past hx h
        have := List.pairwise_cons.mp (List.pairwise_append.mp hc.st).2.1
        have := Dv.low g (fun e he => Int.le_of_lt (this.1 e he).2) (this.2.imp fun h => Int.le_of_lt h.2)
        exact ar59 h2 this
      · exact .inr ⟨Dv.head h hc.dv.1 hc.dv.2, (ar26 hx)⟩
  · rw [e, Dv.snoc]
    rcases h with h | ⟨h, ha⟩
    · exact .inl h
    · exact .inr ⟨Dv.head h hc.dv.1 hc.dv.2, ha⟩
/-- the fold of goL over raw pairs -/
def canon (c r : List (Int × Int)) : List (Int × Int) := r.foldl (fun c p => goL c p.1 p.2) c
theorem canon_canon : ∀ {r c : List (Int × Int)}, Canon c → (∀ p ∈ r, 0 < p.1 ∧ 0 < p.2) → Canon (canon c r)
  | [], c, hc, _ => hc
  | p :: r, c, hc, h => canon_canon (r := r) (goL_canon hc (h p List.mem_cons_self).1 (h p List.mem_cons_self).2) fun q hq => h q (List.mem_cons_of_mem _ hq)
theorem canon_ach {M : Mac} {S : Sn} : ∀ {r c : List (Int × Int)}, Canon c → (∀ p ∈ r, 0 < p.1 ∧ 0 < p.2) → Ach M S (c ++ r) → Ach M S (canon c r)
  | [], c, hc, _, h => by simpa [canon] using h
  | p :: r, c, hc, h, g => canon_ach (r := r) (goL_canon hc (h p List.mem_cons_self).1 (h p List.mem_cons_self).2) (fun q hq => h q (List.mem_cons_of_mem _ hq)) (goL_ach hc p.1 p.2 r S g)
theorem dv_congr {c c' : List (Int × Int)} {H x : Int} (h : Dv 0 c H x → Dv 0 c' H x) : ∀ {r : List (Int × Int)}, Dv 0 (c ++ r) H x → Dv 0 (c' ++ r) H x := by
  intro r
  induction r generalizing c c' with
  | nil => simpa using h
  | cons p r ih =>
    intro g
    have e : ∀ c : List (Int × Int), c ++ p :: r = (c ++ [(p.1, p.2)]) ++ r := fun c => by simp
    rw [e] at g ⊢
    refine ih (c := c ++ [(p.1, p.2)]) (fun k => ?_) g
    rw [Dv.snoc] at k ⊢
    exact k.imp id fun k => ⟨h k.1, k.2⟩
theorem canon_dv {H x : Int} : ∀ {r c : List (Int × Int)}, Canon c → (∀ p ∈ r, 0 < p.1 ∧ 0 < p.2) → Dv 0 (c ++ r) H x → Dv 0 (canon c r) H x
  | [], c, hc, _, h => by simpa [canon] using h
  | p :: r, c, hc, h, g => by
    refine canon_dv (r := r) (goL_canon hc (h p List.mem_cons_self).1 (h p List.mem_cons_self).2) (fun q hq => h q (List.mem_cons_of_mem _ hq)) ?_
    have e : c ++ p :: r = (c ++ [(p.1, p.2)]) ++ r := by simp
    rw [e] at g
    exact dv_congr (fun k => goL_dv hc k) g
theorem canon_snoc (c r : List (Int × Int)) (p) : canon c (r ++ [p]) = goL (canon c r) p.1 p.2 := by unfold canon; rw [List.foldl_append]; rfl
end Mine
end
section
open PySem PySem.W PyProof.Rows PySem.SeqAt
set_option Elab.async false
set_option linter.unusedVariables false
set_option linter.unnecessarySimpa false
set_option linter.unusedSimpArgs false
namespace Mine
/-- a machine looks at its own nodes alone -/
structure MOk (M : Mac) : Prop where
  held : ∀ {S S'}, (∀ i, M.ids i → S i = S' i) → M.held S = M.held S'
  stp : ∀ {S S' j u}, (∀ i, M.ids i → S i = S' i) → M.stp S j u → M.stp S' j u
  fin : ∀ {S S'}, (∀ i, M.ids i → S i = S' i) → M.fin S → M.fin S'
  mem : ∀ {S j u}, M.stp S j u → M.ids j
  nn : ∀ S, 0 ≤ M.held S
  empty : ∀ {S}, (∀ i, M.ids i → S i = false) → M.held S = 0
def Agree (M : Mac) (S S' : Sn) : Prop := ∀ i, M.ids i → S i = S' i
theorem Agree.add {M : Mac} {S S'} (h : Agree M S S') (j : Nat) : Agree M (S.add j) (S'.add j) := fun i hi => by unfold Sn.add; rw [h i hi]
theorem Run.agree {M : Mac} (ok : MOk M) {x S} (h : Run M x S) : ∀ {S'}, Agree M S S' → Run M x S' := by
  induction h with
  | fin a => intro S' g; exact .fin (ok.fin g a)
  | step a b _ ih => intro S' g; exact .step (ok.stp g a) (by rw [← ok.held g]; exact b) (ih (g.add _))
theorem Move.agree {M : Mac} (ok : MOk M) {x S T} (h : Move M x S T) : ∀ {S'}, Agree M S S' → ∃ T', Move M x S' T' ∧ Agree M T T' := by
  induction h with
  | refl => intro S' g; exact ⟨S', .refl _, g⟩
  | step a b _ ih =>
    intro S' g
    obtain ⟨T', m, e⟩ := ih (g.add _)
    exact ⟨T', .step (ok.stp g a) (by rw [← ok.held g]; exact b) m, e⟩
theorem Ach.agree {M : Mac} (ok : MOk M) : ∀ {q : List (Int × Int)} {S S'}, Ach M S q → Agree M S S' → Ach M S' q
  | [], S, S', h, g => ok.fin g h
  | p :: q, S, S', ⟨T, m, e, h⟩, g => by
    obtain ⟨T', m', g'⟩ := m.agree ok g
    exact ⟨T', m', by rw [← ok.held g']; exact e, h.agree ok g'⟩
theorem Move.off {M : Mac} (ok : MOk M) {x S T} (h : Move M x S T) : ∀ i, ¬ M.ids i → T i = S i := by
  induction h with
  | refl => intro i _; rfl
  | @step S _ j _ a b _ ih =>
    intro i hi
    rw [ih i hi]
    unfold Sn.add
    have hj := ok.mem a
    have : (i == j) = false := by
      rw [beq_eq_false_iff_ne]; rintro rfl; exact hi hj
    rw [this, Bool.or_false]
/-! sums over the parts -/
theorem sum_le {ps : List Int} {f g : Int → Int} (h : ∀ p ∈ ps, f p ≤ g p) : (ps.map f).sum ≤ (ps.map g).sum := by
  induction ps with
  | nil => constructor
  | cons a r ih =>
    have := h a List.mem_cons_self
    have := ih fun p hp => h p (List.mem_cons_of_mem _ hp)
    simp; exact ar119 (by assumption) this
theorem sum_eq {ps : List Int} {f g : Int → Int} (h : ∀ p ∈ ps, f p = g p) : (ps.map f).sum = (ps.map g).sum := by
  rw [List.map_congr_left h]
theorem sum_but {ps : List Int} (nd : ps.Nodup) {q : Int} (hq : q ∈ ps) {f g : Int → Int} (h : ∀ p ∈ ps, p ≠ q → f p ≤ g p) : (ps.map f).sum - f q ≤ (ps.map g).sum - g q := by
  induction ps with
  | nil => simp at hq
  | cons a r ih =>
    rw [List.nodup_cons] at nd
    simp only [List.map_cons, List.sum_cons]
    by_cases e : a = q
    · subst e
      have := sum_le (ps := r) (f := f) (g := g) fun p hp => h p (List.mem_cons_of_mem _ hp) (by rintro rfl; exact nd.1 hp)
      exact ar120 this
    · have hq' : q ∈ r := by rcases List.mem_cons.mp hq with h | h; exact absurd h.symm e; exact h
      have := ih nd.2 hq' fun p hp => h p (List.mem_cons_of_mem _ hp)
      have := h a List.mem_cons_self e
      exact ar121 (by assumption) this
theorem sum_but_eq {ps : List Int} (nd : ps.Nodup) {q : Int} (hq : q ∈ ps) {f g : Int → Int} (h : ∀ p ∈ ps, p ≠ q → f p = g p) : (ps.map f).sum - f q = (ps.map g).sum - g q := by
  have h1 := sum_but nd hq (f := f) (g := g) fun p hp e => Int.le_of_eq (h p hp e)
  have h2 := sum_but nd hq (f := g) (g := f) fun p hp e => Int.le_of_eq (h p hp e).symm
  exact ar122 h1 h2
theorem sum_zero (ps : List Int) : (ps.map fun _ => (0 : Int)).sum = 0 := by induction ps <;> simp_all
def updC (cur : Int → Int) (i v : Int) : Int → Int := fun p => if p = i then v else cur p
theorem sum_updC {ps : List Int} (nd : ps.Nodup) {i : Int} (hi : i ∈ ps) (cur : Int → Int) (v : Int) : (ps.map (updC cur i v)).sum = (ps.map cur).sum - cur i + v := by
  have := sum_but_eq nd hi (f := updC cur i v) (g := cur) fun p _ e => by unfold updC; rw [if_neg e]
  have e : updC cur i v i = v := by unfold updC; rw [if_pos rfl]
  exact ar123 this e
/-! ### a node of parts -/
def node (r : Nat) (w : Int) (ps : List Int) (mac : Int → Mac) : Mac where
  held S := if S r then w else (ps.map fun p => (mac p).held S).sum
  stp S j u := S r = false ∧ ((j = r ∧ u = w ∧ ∀ p ∈ ps, (mac p).fin S) ∨ ∃ p ∈ ps, (mac p).stp S j u)
  fin S := S r = true
  ids j := j = r ∨ ∃ p ∈ ps, (mac p).ids j
structure Parts (r : Nat) (ps : List Int) (mac : Int → Mac) : Prop where
  nd : ps.Nodup
  ok : ∀ p ∈ ps, MOk (mac p)
  disj : ∀ p ∈ ps, ∀ q ∈ ps, p ≠ q → ∀ i, (mac p).ids i → ¬ (mac q).ids i
  root : ∀ p ∈ ps, ¬ (mac p).ids r
section
variable {r : Nat} {w : Int} {ps : List Int} {mac : Int → Mac}
theorem node_ok (P : Parts r ps mac) (hw : 0 ≤ w) : MOk (node r w ps mac) where
  held := fun {S S'} h => by
    have h0 := h r (.inl rfl)
    show (if S r then w else _) = (if S' r then w else _)
    rw [h0, sum_eq fun p hp => (P.ok p hp).held fun i hi => h i (.inr ⟨p, hp, hi⟩)]
  stp := fun {S S' j u} h ⟨h0, g⟩ => ⟨by rw [← h r (.inl rfl)]; exact h0, by
    rcases g with ⟨a, b, c⟩ | ⟨p, hp, g⟩
    · exact .inl ⟨a, b, fun p hp => (P.ok p hp).fin (fun i hi => h i (.inr ⟨p, hp, hi⟩)) (c p hp)⟩
    · exact .inr ⟨p, hp, (P.ok p hp).stp (fun i hi => h i (.inr ⟨p, hp, hi⟩)) g⟩⟩
  fin := fun {S S'} h g => by show S' r = true; rw [← h r (.inl rfl)]; exact g
  mem := fun {S j u} ⟨_, g⟩ => by
    rcases g with ⟨a, _, _⟩ | ⟨p, hp, g⟩
    · exact .inl a
    · exact .inr ⟨p, hp, (P.ok p hp).mem g⟩
  nn := fun S => by
    show 0 ≤ (if S r then w else _)
    split
    · exact hw
    · have := sum_le (ps := ps) (f := fun _ => 0) (g := fun p => (mac p).held S) fun p hp => (P.ok p hp).nn S
      have e := sum_zero ps
      exact ar21 this e
  empty := fun {S} h => by
    show (if S r then w else _) = 0
    rw [h r (.inl rfl)]
    rw [sum_eq (g := fun _ => 0) fun p hp => (P.ok p hp).empty fun i hi => h i (.inr ⟨p, hp, hi⟩)]
    rw [sum_zero]
    rfl
/-- a part's move is the node's move -/
theorem Move.lift (P : Parts r ps mac) {q : Int} (hq : q ∈ ps) {x S T} (h : Move (mac q) x S T) : S r = false → ∀ y, x - (mac q).held S + (ps.map fun p => (mac p).held S).sum ≤ y → Move (node r w ps mac) y S T := by
  induction h with
  | refl => intro _ _ _; exact .refl _
  | @step S T j u a b m ih =>
    intro h0 y hy
    have hj := (P.ok q hq).mem a
    have hr : (S.add j) r = false := by
      unfold Sn.add; rw [h0]
      rw [Bool.false_or, beq_eq_false_iff_ne]; rintro rfl; exact P.root q hq hj
    have hs := sum_but_eq P.nd hq (f := fun p => (mac p).held (S.add j)) (g := fun p => (mac p).held S) fun p hp e => (P.ok p hp).held fun i hi => by
      unfold Sn.add
      have : (i == j) = false := by rw [beq_eq_false_iff_ne]; rintro rfl; exact P.disj p hp q hq e i hi hj
      rw [this, Bool.or_false]
    refine .step (u := u) ⟨h0, .inr ⟨q, hq, a⟩⟩ ?_ (ih hr y (ar124 hy hs))
    show (if S r then w else _) + u ≤ y
    rw [h0]
    simp only [Bool.false_eq_true, if_false]
    exact ar125 b hy
def filt (p : Int) (fs : List Fall) : List (Int × Int) := (fs.filter (fun f => f.1 == p)).map (·.2)
theorem filt_cons (p : Int) (f : Fall) (fs) : filt p (f :: fs) = if f.1 = p then f.2 :: filt p fs else filt p fs := by
  unfold filt
  by_cases h : f.1 = p
  · rw [if_pos h, List.filter_cons_of_pos (by simpa using h)]; rfl
  · rw [if_neg h, List.filter_cons_of_neg (by simpa using h)]
theorem filt_app (p : Int) (a b : List Fall) : filt p (a ++ b) = filt p a ++ filt p b := by unfold filt; rw [List.filter_append, List.map_append]
def fraw (ps : List Int) : (Int → Int) → List Fall → List (Int × Int)
  | _, [] => []
  | cur, f :: fs => ((ps.map cur).sum - cur f.1 + f.2.1, (ps.map cur).sum - cur f.1 + f.2.2) :: fraw ps (updC cur f.1 f.2.2) fs
def endc (cur : Int → Int) (fs : List Fall) : Int → Int := fs.foldl (fun c f => updC c f.1 f.2.2) cur
def raw (ps : List Int) (w : Int) (fs : List Fall) : List (Int × Int) := fraw ps (fun _ => 0) fs ++ [((ps.map (endc (fun _ => 0) fs)).sum + w, w)]
theorem node_ach (P : Parts r ps mac) : ∀ (fs : List Fall) (S : Sn) (cur : Int → Int), S r = false → (∀ f ∈ fs, f.1 ∈ ps) → (∀ p ∈ ps, Ach (mac p) S (filt p fs)) → (∀ p ∈ ps, (mac p).held S ≤ cur p) →
    Ach (node r w ps mac) S (fraw ps cur fs ++ [((ps.map (endc cur fs)).sum + w, w)])
  | [], S, cur, h0, _, ha, hc => by
    refine ⟨S.add r, .step (u := w) ⟨h0, .inl ⟨rfl, rfl, fun p hp => ha p hp⟩⟩ ?_ (.refl _), ?_, ?_⟩
    · show (if S r then w else _) + w ≤ _
      rw [h0]
      have := sum_le hc
      simpa [endc] using this
    · show (if (S.add r) r then w else _) ≤ w
      rw [if_pos (by simp [Sn.add])]
      exact Int.le_refl _
    · show (S.add r) r = true
      simp [Sn.add]
  | f :: fs, S, cur, h0, hm, ha, hc => by
    have hf := hm f List.mem_cons_self
    have hA := ha f.1 hf
    rw [filt_cons, if_pos rfl] at hA
    obtain ⟨T, m, e, hT⟩ := hA
    have off := m.off (P.ok f.1 hf)
    have agr : ∀ p ∈ ps, p ≠ f.1 → Agree (mac p) S T := fun p hp hne i hi => (off i (P.disj p hp f.1 hf hne i hi)).symm
    have hT0 : T r = false := by rw [off r (P.root f.1 hf)]; exact h0
    have hb := sum_but P.nd hf (f := fun p => (mac p).held S) (g := cur) fun p hp _ => hc p hp
    have hcT : ∀ p ∈ ps, (mac p).held T ≤ updC cur f.1 f.2.2 p := fun p hp => by
      unfold updC
      by_cases hne : p = f.1
      · rw [if_pos hne, hne]; exact e
      · rw [if_neg hne, ← (P.ok p hp).held (agr p hp hne)]; exact hc p hp
    have hh := sum_le hcT
    rw [sum_updC P.nd hf] at hh
    refine ⟨T, Move.lift P hf m h0 _ (by dsimp only; exact ar126 hb), ?_, node_ach P fs T (updC cur f.1 f.2.2) hT0 (fun g hg => hm g (List.mem_cons_of_mem _ hg)) (fun p hp => ?_) hcT⟩
    · show (if T r then w else _) ≤ _
      rw [hT0]
      exact hh
    · by_cases hne : p = f.1
      · subst hne; exact hT
      · have := ha p hp
        rw [filt_cons, if_neg (fun h => hne h.symm)] at this
        exact this.agree (P.ok p hp) (agr p hp hne)
/-- the core of dominance -/
theorem dom_core (P : Parts r ps mac) (cur : Int → Int) {x : Int} (HB : ∀ p ∈ ps, ∀ S, Run (mac p) (x - (ps.map cur).sum + cur p) S → cur p ≤ (mac p).held S) {S} (h : Run (node r w ps mac) x S) :
    S r = false → ∀ p ∈ ps, Run (mac p) (x - (ps.map cur).sum + cur p) S := by
  induction h with
  | fin a => intro h0; have a : _ = true := a; rw [h0] at a; cases a
  | @step S j u a b _ ih =>
    intro h0 p hp
    obtain ⟨_, ⟨rfl, rfl, a⟩ | ⟨q, hq, a⟩⟩ := a
    · exact .fin (a p hp)
    · have hj := (P.ok q hq).mem a
      have hr : (S.add j) r = false := by
        unfold Sn.add; rw [h0]
        rw [Bool.false_or, beq_eq_false_iff_ne]; rintro rfl; exact P.root q hq hj
      have ih := ih hr
      have other : ∀ p ∈ ps, p ≠ q → Run (mac p) (x - (ps.map cur).sum + cur p) S := fun p hp hne => (ih p hp).agree (P.ok p hp) fun i hi => by
        unfold Sn.add
        have : (i == j) = false := by rw [beq_eq_false_iff_ne]; rintro rfl; exact P.disj p hp q hq hne i hi hj
        rw [this, Bool.or_false]
      by_cases hne : p = q
      · subst hne
        refine .step a ?_ (ih p hp)
        have hb := sum_but P.nd hp (f := cur) (g := fun p => (mac p).held S) fun p' hp' hne => HB p' hp' S (other p' hp' hne)
        have b : (if S r then w else _) + u ≤ x := b
        rw [h0] at b
        simp only [Bool.false_eq_true, if_false] at b
        exact ar127 hb b
      · exact other p hp hne
theorem root_cost (P : Parts r ps mac) {x S} (h : Run (node r w ps mac) x S) : S r = false → ∃ S', (∀ p ∈ ps, (mac p).fin S') ∧ (ps.map fun p => (mac p).held S').sum + w ≤ x := by
  induction h with
  | fin a => intro h0; have a : _ = true := a; rw [h0] at a; cases a
  | @step S j u a b _ ih =>
    intro h0
    obtain ⟨_, ⟨rfl, rfl, a⟩ | ⟨q, hq, a⟩⟩ := a
    · refine ⟨S, a, ?_⟩
      have b : (if S j then u else _) + u ≤ x := b
      rw [h0] at b
      assumption
    · have hj := (P.ok q hq).mem a
      refine ih ?_
      unfold Sn.add; rw [h0]
      rw [Bool.false_or, beq_eq_false_iff_ne]; rintro rfl; exact P.root q hq hj
theorem endc_snoc (cur : Int → Int) (fs : List Fall) (f : Fall) : endc cur (fs ++ [f]) = updC (endc cur fs) f.1 f.2.2 := by unfold endc; rw [List.foldl_append]; rfl
theorem fraw_snoc (ps : List Int) (f : Fall) : ∀ (fs : List Fall) (cur : Int → Int), fraw ps cur (fs ++ [f]) = fraw ps cur fs ++ [((ps.map (endc cur fs)).sum - endc cur fs f.1 + f.2.1, (ps.map (endc cur fs)).sum - endc cur fs f.1 + f.2.2)]
  | [], cur => rfl
  | g :: fs, cur => by
    show _ :: fraw ps _ (fs ++ [f]) = _ :: (fraw ps _ fs ++ _)
    rw [fraw_snoc ps f fs]
    rfl
/-- the last valley of a part -/
theorem endc_filt (p : Int) (fs : List Fall) : ∀ n, fs.length ≤ n → (endc (fun _ => 0) fs p = 0 ∧ filt p fs = []) ∨ ∃ q h, filt p fs = q ++ [(h, endc (fun _ => 0) fs p)] ∧ (p, h, endc (fun _ => 0) fs p) ∈ fs := by
  intro n
  induction n generalizing fs with
  | zero => intro h; obtain rfl : fs = [] := by cases fs; rfl; simp at h
            exact .inl ⟨rfl, rfl⟩
  | succ n ih =>
    intro hn
    by_cases e0 : fs = []
    · subst e0; exact .inl ⟨rfl, rfl⟩
    · obtain ⟨pre, f, rfl⟩ : ∃ pre f, fs = pre ++ [f] := ⟨fs.dropLast, fs.getLast e0, (List.dropLast_concat_getLast e0).symm⟩
      rw [endc_snoc, filt_app]
      by_cases hp : p = f.1
      · right
        refine ⟨filt p pre, f.2.1, ?_, ?_⟩
        · rw [filt_cons, if_pos hp.symm]
          unfold updC
          rw [if_pos hp]
          rfl
        · unfold updC
          rw [if_pos hp, hp]
          simp
      · have e1 : updC (endc (fun _ => 0) pre) f.1 f.2.2 p = endc (fun _ => 0) pre p := by unfold updC; rw [if_neg hp]
        have e2 : filt p [f] = [] := by rw [filt_cons, if_neg (fun h => hp h.symm)]; rfl
        rw [e1, e2, List.append_nil]
        rcases ih pre (by simp at hn; exact hn) with h | ⟨q, h, g1, g2⟩
        · exact .inl h
        · exact .inr ⟨q, h, g1, List.mem_append_left _ g2⟩
/-- a part's last valley is no more than what it holds, if it ends within a depth -/
theorem last_low {M : Mac} {p q : List (Int × Int)} {h v x : Int} {l : List (Int × Int)} (hp : p = q ++ (h, v) :: l) (hc : Canon p) (dom : ∀ S x, Run M x S → Dv 0 p (M.held S) x) (hx : x < h) {S} (hr : Run M x S) : v ≤ M.held S := by
  have g := dom S x hr
  subst hp
  have g := Dv.past hx g
  have := List.pairwise_cons.mp (List.pairwise_append.mp hc.st).2.1
  exact Dv.low g (fun e he => Int.le_of_lt (this.1 e he).2) (this.2.imp fun h => Int.le_of_lt h.2)
theorem node_dom (P : Parts r ps mac) {fs : List Fall} (hm : ∀ f ∈ fs, f.1 ∈ ps) (hs : (fs.map fKey).Pairwise (· ≤ ·)) (hc : ∀ p ∈ ps, Canon (filt p fs)) (dom : ∀ p ∈ ps, ∀ S x, Run (mac p) x S → Dv 0 (filt p fs) ((mac p).held S) x)
    {S x} (h : Run (node r w ps mac) x S) : Dv 0 (raw ps w fs) ((node r w ps mac).held S) x := by
  unfold raw
  rw [Dv.snoc]
  by_cases h0 : S r = true
  · left
    show w ≤ (if S r then w else _)
    rw [if_pos h0]
    exact Int.le_refl _
  · have h0 : S r = false := by simpa using h0
    right
    have hh : (node r w ps mac).held S = (ps.map fun p => (mac p).held S).sum := by
      show (if S r then w else _) = _
      rw [h0]; rfl
    rw [hh]
    refine ⟨?_, ?_⟩
    · have key : ∀ k, k ≤ fs.length → Dv 0 (fraw ps (fun _ => 0) (fs.take k)) (ps.map fun p => (mac p).held S).sum x := by
        intro k
        induction k with
        | zero =>
          intro _
          show (0 : Int) ≤ _
          have := sum_le (ps := ps) (f := fun _ => 0) (g := fun p => (mac p).held S) fun p hp => (P.ok p hp).nn S
          have e := sum_zero ps
          exact ar21 this e
        | succ k ih =>
          intro hk
          have hf : fs[k]? = some fs[k] := List.getElem?_eq_getElem hk
          have ek : fs.take (k + 1) = fs.take k ++ [fs[k]] := by rw [List.take_add_one, hf]; rfl
          rw [ek, fraw_snoc, Dv.snoc]
          have hfm : fs[k].1 ∈ ps := hm _ (List.getElem_mem hk)
          by_cases hx : (ps.map (endc (fun _ => 0) (fs.take k))).sum - endc (fun _ => 0) (fs.take k) fs[k].1 + fs[k].2.1 ≤ x
          · exact .inr ⟨ih (ar2 hk), hx⟩
          · left
            have eM : (ps.map (endc (fun _ => 0) (fs.take (k + 1)))).sum = (ps.map (endc (fun _ => 0) (fs.take k))).sum - endc (fun _ => 0) (fs.take k) fs[k].1 + fs[k].2.2 := by
              rw [ek, endc_snoc, sum_updC P.nd hfm]
            rw [← eM]
            have hsplit : fs = fs.take (k + 1) ++ fs.drop (k + 1) := (List.take_append_drop _ _).symm
            have hle : ∀ e ∈ fs.take (k + 1), fKey e ≤ fKey fs[k] := fun e he => by
              obtain ⟨i, hi, rfl⟩ := List.getElem_of_mem he
              rw [List.length_take] at hi
              rw [List.getElem_take]
              rcases Nat.lt_or_ge i k with q | q
              · have := List.pairwise_iff_getElem.mp hs i k (by simp; exact ar128 hi) (by simp; exact ar50 hk) q
                simpa using this
              · obtain rfl : i = k := ar129 hi q
                exact Int.le_refl _
            have HB : ∀ p ∈ ps, ∀ S, Run (mac p) (x - (ps.map (endc (fun _ => 0) (fs.take (k + 1)))).sum + endc (fun _ => 0) (fs.take (k + 1)) p) S → endc (fun _ => 0) (fs.take (k + 1)) p ≤ (mac p).held S := by
              intro p hp S hr
              rcases endc_filt p (fs.take (k + 1)) _ (Nat.le_refl _) with ⟨e, _⟩ | ⟨q, h', e, g⟩
              · rw [e]; exact (P.ok p hp).nn S
              · have ef : filt p fs = q ++ (h', endc (fun _ => 0) (fs.take (k + 1)) p) :: filt p (fs.drop (k + 1)) := by
                  conv => lhs; rw [hsplit]
                  rw [filt_app, e]; simp
                have hk' := hle _ g
                unfold fKey at hk'
                dsimp only at hk'
                refine last_low ef (hc p hp) (dom p hp) ?_ hr
                exact ar130 hk hx eM hk'
            exact sum_le fun p hp => HB p hp S (dom_core P _ HB h h0 p hp)
      have := key fs.length (Nat.le_refl _)
      rwa [List.take_length] at this
    · obtain ⟨S', f1, f2⟩ := root_cost P h h0
      refine Int.le_trans (Int.add_le_add_right (sum_le fun p hp => ?_) w) f2
      rcases endc_filt p fs _ (Nat.le_refl _) with ⟨e, _⟩ | ⟨q, h', e, g⟩
      · rw [e]; exact (P.ok p hp).nn S'
      · exact last_low (x := h' - 1) (l := []) e (hc p hp) (dom p hp) (ar51) (.fin (f1 p hp))
/-- Liu's law for a machine and a path -/
structure Liu (M : Mac) (p : List (Int × Int)) : Prop where
  c : Canon p
  ach : ∀ S, (∀ i, M.ids i → S i = false) → Ach M S p
  dom : ∀ S x, Run M x S → Dv 0 p (M.held S) x
theorem endc_nn {p : Int} {fs : List Fall} (hc : Canon (filt p fs)) : 0 ≤ endc (fun _ => 0) fs p := by
  rcases endc_filt p fs _ (Nat.le_refl _) with ⟨e, _⟩ | ⟨q, h', e, g⟩
  · exact ar131 e
  · have := (hc.pos (h', endc (fun _ => 0) fs p) (by rw [e]; simp)).2
    exact Int.le_of_lt this
theorem filt_pre {p : Int} {a b : List Fall} (hc : Canon (filt p (a ++ b))) : Canon (filt p a) := by
  rw [filt_app] at hc
  exact ⟨(List.pairwise_append.mp hc.st).1, fun e he => hc.pos e (List.mem_append_left _ he)⟩
theorem raw_pos (P : Parts r ps mac) (hw : 0 < w) {fs : List Fall} (hm : ∀ f ∈ fs, f.1 ∈ ps) (hc : ∀ p ∈ ps, Canon (filt p fs)) : ∀ e ∈ raw ps w fs, 0 < e.1 ∧ 0 < e.2 := by
  have tot : ∀ k, 0 ≤ (ps.map (endc (fun _ => 0) (fs.take k))).sum := fun k => by
    have := sum_le (ps := ps) (f := fun _ => 0) (g := endc (fun _ => 0) (fs.take k)) fun p hp => endc_nn (filt_pre (b := fs.drop k) (by rw [List.take_append_drop]; exact hc p hp))
    have e := sum_zero ps
    exact ar21 this e
  have key : ∀ k, k ≤ fs.length → ∀ e ∈ fraw ps (fun _ => 0) (fs.take k), 0 < e.1 ∧ 0 < e.2 := by
    intro k
    induction k with
    | zero => intro _ e he; simp [fraw] at he
    | succ k ih =>
      intro hk e he
      have hf : fs[k]? = some fs[k] := List.getElem?_eq_getElem hk
      have ek : fs.take (k + 1) = fs.take k ++ [fs[k]] := by rw [List.take_add_one, hf]; rfl
      rw [ek, fraw_snoc] at he
      rcases List.mem_append.mp he with he | he
      · exact ih (ar2 hk) e he
      · have hfm : fs[k].1 ∈ ps := hm _ (List.getElem_mem hk)
        have hb := sum_but P.nd hfm (f := fun _ => 0) (g := endc (fun _ => 0) (fs.take k)) fun p hp _ => endc_nn (filt_pre (b := fs.drop k) (by rw [List.take_append_drop]; exact hc p hp))
        have e0 := sum_zero ps
        have hp := (hc _ hfm).pos fs[k].2 (by unfold filt; exact List.mem_map.mpr ⟨fs[k], List.mem_filter.mpr ⟨List.getElem_mem hk, by simp⟩, rfl⟩)
        simp at he
        subst he
        dsimp only
        exact ar132 hk hb e0 hp
  intro e he
  unfold raw at he
  rcases List.mem_append.mp he with he | he
  · have := key fs.length (Nat.le_refl _)
    rw [List.take_length] at this
    exact this e he
  · have := tot fs.length
    rw [List.take_length] at this
    simp at he
    subst he
    dsimp only
    exact ar133 hw this
theorem node_liu (P : Parts r ps mac) (hw : 0 < w) {fs : List Fall} (hm : ∀ f ∈ fs, f.1 ∈ ps) (hs : (fs.map fKey).Pairwise (· ≤ ·)) (L : ∀ p ∈ ps, Liu (mac p) (filt p fs)) : Liu (node r w ps mac) (canon [] (raw ps w fs)) := by
  have c0 : Canon [] := ⟨.nil, by decide +kernel⟩
  have hp := raw_pos P hw hm fun p hp => (L p hp).c
  refine ⟨canon_canon c0 hp, fun S h => canon_ach c0 hp ?_, fun S x h => canon_dv c0 hp ?_⟩
  · rw [List.nil_append]
    refine node_ach P fs S (fun _ => 0) (h r (.inl rfl)) hm (fun p hp => (L p hp).ach S fun i hi => h i (.inr ⟨p, hp, hi⟩)) fun p hp => ?_
    rw [(P.ok p hp).empty fun i hi => h i (.inr ⟨p, hp, hi⟩)]
    exact Int.le_refl _
  · rw [List.nil_append]
    exact node_dom P hm hs (fun p hp => (L p hp).c) (fun p hp => (L p hp).dom) h
end
end Mine
end
section
open PySem PySem.W PyProof.Rows PySem.SeqAt
set_option Elab.async false
set_option linter.unusedVariables false
set_option linter.unnecessarySimpa false
set_option linter.unusedSimpArgs false
namespace Mine
/-! ### the program's path is the canonical path of the raw falls -/
theorem pathRun_eq {ps : List Int} (nd : ps.Nodup) {fs : List Fall} (hm : ∀ f ∈ fs, f.1 ∈ ps) :
    (pathRun fs).1 = canon [] (fraw ps (fun _ => 0) fs) ∧ (pathRun fs).2.1 = (ps.map (endc (fun _ => 0) fs)).sum ∧ ∀ p, (dgetI (pathRun fs).2.2 p).getD 0 = endc (fun _ => 0) fs p := by
  have key : ∀ k, k ≤ fs.length → (pathRun (fs.take k)).1 = canon [] (fraw ps (fun _ => 0) (fs.take k)) ∧ (pathRun (fs.take k)).2.1 = (ps.map (endc (fun _ => 0) (fs.take k))).sum ∧ ∀ p, (dgetI (pathRun (fs.take k)).2.2 p).getD 0 = endc (fun _ => 0) (fs.take k) p := by
    intro k
    induction k with
    | zero =>
      intro _
      refine ⟨rfl, ?_, fun p => rfl⟩
      have := sum_zero ps
      show 0 = (ps.map fun _ => 0).sum
      exact ar489 this
    | succ k ih =>
      intro hk
      have hf : fs[k]? = some fs[k] := List.getElem?_eq_getElem hk
      have ek : fs.take (k + 1) = fs.take k ++ [fs[k]] := by rw [List.take_add_one, hf]; rfl
      have hfm : fs[k].1 ∈ ps := hm _ (List.getElem_mem hk)
      obtain ⟨i1, i2, i3⟩ := ih (ar2 hk)
      have es : pathRun (fs.take (k + 1)) = pathStep (pathRun (fs.take k)) fs[k] := by rw [ek]; unfold pathRun; rw [List.foldl_append]; rfl
      rw [es, ek, fraw_snoc, canon_snoc, endc_snoc, sum_updC nd hfm]
      generalize fs[k] = f at *
      generalize pathRun (fs.take k) = st at *
      unfold pathStep
      refine ⟨?_, ?_, fun p => ?_⟩
      · dsimp only
        rw [i1, i2, i3]
      · dsimp only
        rw [i2, i3]
      · dsimp only
        rw [dgetI_dsetI]
        unfold updC
        by_cases e : p = f.1
        · rw [if_pos e, if_pos e.symm]; rfl
        · rw [if_neg e, if_neg (fun h => e h.symm)]; exact i3 p
  have := key fs.length (Nat.le_refl _)
  rwa [List.take_length] at this
theorem pathL_eq {pl : List (List (Int × Int))} {ps : List Int} (nd : ps.Nodup) (w : Int) (hm : ∀ f ∈ fallsOf pl ps, f.1 ∈ ps) : pathL pl ps w = canon [] (raw ps w (fallsOf pl ps)) := by
  obtain ⟨h1, h2, _⟩ := pathRun_eq nd hm
  unfold pathL raw
  rw [canon_snoc, h1, h2]
theorem filt_insF {fs : List Fall} {x : Fall} (hs : (fs.map fKey).Pairwise (· ≤ ·)) (hk : ∀ f ∈ fs, f.1 = x.1 → fKey f < fKey x) (p : Int) : filt p (insF fs x) = if x.1 = p then filt p fs ++ [x.2] else filt p fs := by
  unfold insF
  have e0 : filt p fs = filt p (fs.take (rank (fs.map fKey) (fKey x))) ++ filt p (fs.drop (rank (fs.map fKey) (fKey x))) := by rw [← filt_app, List.take_append_drop]
  have hd : ∀ f ∈ fs.drop (rank (fs.map fKey) (fKey x)), fKey x ≤ fKey f := fun f hf => drop_rank hs _ (by rw [← List.map_drop]; exact List.mem_map.mpr ⟨f, hf, rfl⟩)
  rw [e0]
  generalize rank (fs.map fKey) (fKey x) = k at *
  rw [filt_app, filt_cons]
  by_cases e : x.1 = p
  · rw [if_pos e, if_pos e]
    have : filt p (fs.drop k) = [] := by
      unfold filt
      rw [List.map_eq_nil_iff, List.filter_eq_nil_iff]
      intro f hf hp
      have h1 := hd f hf
      have h2 := hk f (List.mem_of_mem_drop hf) (by simp at hp; rw [hp, e])
      exact ar490 h1 h2
    rw [this]; simp
  · rw [if_neg e, if_neg e]
theorem insF_mem {fs : List Fall} {x f : Fall} (h : f ∈ insF fs x) : f ∈ fs ∨ f = x := by
  unfold insF at h
  rcases List.mem_append.mp h with h | h
  · exact .inl (List.mem_of_mem_take h)
  · rcases List.mem_cons.mp h with h | h
    · exact .inr h
    · exact .inl (List.mem_of_mem_drop h)
theorem filt_mem {p : Int} {fs : List Fall} {f : Fall} (h : f ∈ fs) (e : f.1 = p) : f.2 ∈ filt p fs := List.mem_map.mpr ⟨f, List.mem_filter.mpr ⟨h, by simpa using e⟩, rfl⟩
theorem part_fold (part : Int) : ∀ (l d : List (Int × Int)) (fs : List Fall), filt part fs = d → Canon (d ++ l) → (fs.map fKey).Pairwise (· ≤ ·) →
    filt part (l.foldl (fun fs q => insF fs (part, q.1, q.2)) fs) = d ++ l ∧ (∀ p, p ≠ part → filt p (l.foldl (fun fs q => insF fs (part, q.1, q.2)) fs) = filt p fs) ∧
    ((l.foldl (fun fs q => insF fs (part, q.1, q.2)) fs).map fKey).Pairwise (· ≤ ·) ∧ ∀ f ∈ l.foldl (fun fs q => insF fs (part, q.1, q.2)) fs, f ∈ fs ∨ f.1 = part
  | [], d, fs, h, hc, hs => ⟨by simpa using h, fun _ _ => rfl, hs, fun f hf => .inl hf⟩
  | q :: l, d, fs, h, hc, hs => by
    have hk : ∀ f ∈ fs, f.1 = part → fKey f < fKey (part, q.1, q.2) := fun f hf e => by
      have := (List.pairwise_append.mp hc.st).2.2 f.2 (h ▸ filt_mem hf e) q List.mem_cons_self
      unfold fKey
      dsimp only
      exact ar491 this
    have e1 := filt_insF (x := (part, q.1, q.2)) hs hk
    have e2 : d ++ q :: l = (d ++ [q]) ++ l := by simp
    rw [e2] at hc ⊢
    obtain ⟨g1, g2, g3, g4⟩ := part_fold part l (d ++ [q]) (insF fs (part, q.1, q.2)) (by rw [e1, if_pos rfl, h]) hc (insF_sorted hs _)
    refine ⟨g1, fun p hp => ?_, g3, fun f hf => ?_⟩
    · show filt p (l.foldl _ (insF fs (part, q.1, q.2))) = _
      rw [g2 p hp, e1, if_neg (fun h => hp h.symm)]
    · rcases g4 f hf with h | h
      · rcases insF_mem h with h | h
        · exact .inl h
        · subst h; exact .inr rfl
      · exact .inr h
theorem falls_fold {pl : List (List (Int × Int))} : ∀ (ps : List Int) (fs : List Fall), ps.Nodup → (∀ p ∈ ps, filt p fs = []) → (∀ p ∈ ps, Canon (pl.getD p.toNat [])) → (fs.map fKey).Pairwise (· ≤ ·) →
    (∀ p ∈ ps, filt p (ps.foldl (partF pl) fs) = pl.getD p.toNat []) ∧ (∀ p, p ∉ ps → filt p (ps.foldl (partF pl) fs) = filt p fs) ∧ ((ps.foldl (partF pl) fs).map fKey).Pairwise (· ≤ ·) ∧ ∀ f ∈ ps.foldl (partF pl) fs, f ∈ fs ∨ f.1 ∈ ps
  | [], fs, _, _, _, hs => ⟨fun p hp => by simp at hp, fun _ _ => rfl, hs, fun f hf => .inl hf⟩
  | a :: ps, fs, nd, h0, hc, hs => by
    rw [List.nodup_cons] at nd
    obtain ⟨g1, g2, g3, g4⟩ := part_fold a (pl.getD a.toNat []) [] fs (h0 a List.mem_cons_self) (by simpa using hc a List.mem_cons_self) hs
    obtain ⟨k1, k2, k3, k4⟩ := falls_fold (pl := pl) ps (partF pl fs a) nd.2 (fun p hp => by
      show filt p (List.foldl _ fs _) = []
      rw [g2 p (by rintro rfl; exact nd.1 hp)]
      exact h0 p (List.mem_cons_of_mem _ hp)) (fun p hp => hc p (List.mem_cons_of_mem _ hp)) g3
    refine ⟨fun p hp => ?_, fun p hp => ?_, k3, fun f hf => ?_⟩
    · show filt p (ps.foldl (partF pl) (partF pl fs a)) = _
      rcases List.mem_cons.mp hp with rfl | hp
      · rw [k2 p nd.1]
        rw [List.nil_append] at g1
        exact g1
      · exact k1 p hp
    · show filt p (ps.foldl (partF pl) (partF pl fs a)) = _
      rw [k2 p (fun h => hp (List.mem_cons_of_mem _ h))]
      exact g2 p (by rintro rfl; exact hp List.mem_cons_self)
    · rcases k4 f hf with h | h
      · rcases g4 f h with h | h
        · exact .inl h
        · exact .inr (h ▸ List.mem_cons_self)
      · exact .inr (List.mem_cons_of_mem _ h)
theorem falls_ok {pl : List (List (Int × Int))} {ps : List Int} (nd : ps.Nodup) (hc : ∀ p ∈ ps, Canon (pl.getD p.toNat [])) :
    (∀ p ∈ ps, filt p (fallsOf pl ps) = pl.getD p.toNat []) ∧ ((fallsOf pl ps).map fKey).Pairwise (· ≤ ·) ∧ ∀ f ∈ fallsOf pl ps, f.1 ∈ ps := by
  obtain ⟨h1, _, h3, h4⟩ := falls_fold (pl := pl) ps [] nd (fun p hp => rfl) hc (by simp)
  exact ⟨h1, h3, fun f hf => (h4 f hf).resolve_left (by simp)⟩
/-- Liu's law for the program's path of a node -/
theorem path_liu {r : Nat} {w : Int} {ps : List Int} {mac : Int → Mac} {pl : List (List (Int × Int))} (P : Parts r ps mac) (hw : 0 < w) (L : ∀ p ∈ ps, Liu (mac p) (pl.getD p.toNat [])) : Liu (node r w ps mac) (pathL pl ps w) := by
  obtain ⟨h1, h2, h3⟩ := falls_ok P.nd fun p hp => (L p hp).c
  rw [pathL_eq P.nd w h3]
  exact node_liu P hw h3 h2 fun p hp => by rw [h1 p hp]; exact L p hp
end Mine
end
section
open PySem PySem.W PyProof.Rows PySem.SeqAt
set_option Elab.async false
set_option linter.unusedVariables false
set_option linter.unnecessarySimpa false
set_option linter.unusedSimpArgs false
namespace Mine
def Sn.del (S : Sn) (j : Nat) : Sn := fun i => S i && !(i == j)
theorem Sn.del_self (S : Sn) (j : Nat) : (S.del j) j = false := by simp [Sn.del]
theorem Sn.del_ne (S : Sn) {i j : Nat} (h : i ≠ j) : (S.del j) i = S i := by simp [Sn.del, h]
theorem Sn.add_self (S : Sn) (j : Nat) : (S.add j) j = true := by simp [Sn.add]
theorem Sn.add_ne (S : Sn) {i j : Nat} (h : i ≠ j) : (S.add j) i = S i := by simp [Sn.add, h]
theorem Sn.add_true {S : Sn} {i j : Nat} (h : (S.add j) i = true) : S i = true ∨ i = j := by simpa [Sn.add] using h
theorem Sn.del_true {S : Sn} {i j : Nat} (h : (S.del j) i = true) : S i = true ∧ i ≠ j := by simpa [Sn.del] using h
/-- closed: with a node, all that is under it -/
def Cl (M : Mac) (root : Nat) (par : Nat → Nat) (S : Sn) : Prop := ∀ i, M.ids i → i ≠ root → S (par i) = true → S i = true
structure MLink (M : Mac) (root : Nat) (par : Nat → Nat) (W G : Nat → Int) : Prop where
  rootm : M.ids root
  parm : ∀ i, M.ids i → i ≠ root → M.ids (par i)
  finr : ∀ S, M.fin S ↔ S root = true
  heldr : ∀ S, S root = true → M.held S = W root
  clroot : ∀ S, Cl M root par S → S root = true → ∀ i, M.ids i → S i = true
  down : ∀ S i, Cl M root par S → M.ids i → S i = true → (i ≠ root → S (par i) = false) → M.stp (S.del i) i (W i) ∧ M.held (S.del i) = M.held S - W i + G i
  up : ∀ S i u, Cl M root par S → M.stp S i u → S i = false ∧ u = W i ∧ (i ≠ root → S (par i) = false)
  upcl : ∀ S i u, Cl M root par S → M.stp S i u → Cl M root par (S.add i)
  parne : ∀ i, M.ids i → i ≠ root → par i ≠ i
theorem MLink.congr {M : Mac} {root : Nat} {par par' : Nat → Nat} {W W' G G' : Nat → Int} (L : MLink M root par W G) (h1 : ∀ i, M.ids i → i ≠ root → par' i = par i) (h2 : ∀ i, M.ids i → W' i = W i) (h3 : ∀ i, M.ids i → G' i = G i) (ok : MOk M) : MLink M root par' W' G' := by
  have hcl : ∀ S, Cl M root par' S → Cl M root par S := fun S h i hi hr => by have := h i hi hr; rw [h1 i hi hr] at this; exact this
  refine ⟨L.rootm, fun i hi hr => by rw [h1 i hi hr]; exact L.parm i hi hr, L.finr, fun S h => by rw [h2 _ L.rootm]; exact L.heldr S h, fun S h => L.clroot S (hcl S h), fun S i hc hi hs hp => ?_, fun S i u hc hs => ?_, fun S i u hc hs => ?_, fun i hi hr => by rw [h1 i hi hr]; exact L.parne i hi hr⟩
  · rw [h2 i hi, h3 i hi]
    exact L.down S i (hcl S hc) hi hs fun hr => by have := hp hr; rwa [h1 i hi hr] at this
  · obtain ⟨a, b, c⟩ := L.up S i u (hcl S hc) hs
    have hi := ok.mem hs
    exact ⟨a, by rw [h2 i hi]; exact b, fun hr => by rw [h1 i hi hr]; exact c hr⟩
  · have := L.upcl S i u (hcl S hc) hs
    exact fun j hj hr => by rw [h1 j hj hr]; exact this j hj hr
theorem Cl.del {M : Mac} {root : Nat} {par : Nat → Nat} {S : Sn} (h : Cl M root par S) {i : Nat} (hp : i ≠ root → S (par i) = false) : Cl M root par (S.del i) := fun j hj hr hs => by
  obtain ⟨h1, h2⟩ := Sn.del_true hs
  have h3 := h j hj hr h1
  rw [Sn.del_ne]
  · exact h3
  · rintro rfl
    rw [hp hr] at h1; cases h1
section
variable {r : Nat} {w : Int} {ps : List Int} {mac : Int → Mac} {par : Nat → Nat} {W G : Nat → Int}
theorem node_link (P : Parts r ps mac) (hw : W r = w) (hg : G r = (ps.map fun p => W p.toNat).sum) (L : ∀ p ∈ ps, MLink (mac p) p.toNat par W G) (hpar : ∀ p ∈ ps, par p.toNat = r) : MLink (node r w ps mac) r par W G := by
  have rne : ∀ p ∈ ps, ∀ i, (mac p).ids i → i ≠ r := fun p hp i hi e => P.root p hp (e ▸ hi)
  have clp : ∀ S, Cl (node r w ps mac) r par S → ∀ p ∈ ps, Cl (mac p) p.toNat par S := fun S h p hp i hi _ hs => h i (.inr ⟨p, hp, hi⟩) (rne p hp i hi) hs
  have clr : ∀ S, Cl (node r w ps mac) r par S → S r = true → ∀ p ∈ ps, S p.toNat = true := fun S h h0 p hp => h _ (.inr ⟨p, hp, (L p hp).rootm⟩) (rne p hp _ (L p hp).rootm) (by rw [hpar p hp]; exact h0)
  refine ⟨.inl rfl, ?_, fun S => .rfl, fun S h => ?_, ?_, ?_, ?_, ?_, ?_⟩
  · rintro i (h | ⟨p, hp, hi⟩) hr
    · exact absurd h hr
    · by_cases e : i = p.toNat
      · rw [e, hpar p hp]; exact .inl rfl
      · exact .inr ⟨p, hp, (L p hp).parm i hi e⟩
  · show (if S r then w else _) = W r
    rw [if_pos h, hw]
  · rintro S hc h0 i (h | ⟨p, hp, hi⟩)
    · rw [h]; exact h0
    · exact (L p hp).clroot S (clp S hc p hp) (clr S hc h0 p hp) i hi
  · rintro S i hc (h | ⟨p, hp, hi⟩) hs hpi
    · subst h
      refine ⟨⟨Sn.del_self _ _, .inl ⟨rfl, hw, fun p hp => ?_⟩⟩, ?_⟩
      · rw [(L p hp).finr, Sn.del_ne _ (rne p hp _ (L p hp).rootm)]
        exact clr S hc hs p hp
      · show (if (S.del i) i then w else _) = (if S i then w else _) - W i + G i
        rw [Sn.del_self, hs, hg, hw]
        simp only [Bool.false_eq_true, if_false, if_true]
        rw [sum_eq (g := fun p => W p.toNat) fun p hp => (L p hp).heldr _ (by rw [Sn.del_ne _ (rne p hp _ (L p hp).rootm)]; exact clr S hc hs p hp)]
        exact ar276
    · have h0 : S r = false := by
        cases e : S r with
        | false => rfl
        | true =>
          have h1 := hpi (rne p hp i hi)
          by_cases e1 : i = p.toNat
          · rw [e1, hpar p hp, e] at h1; cases h1
          · have := (L p hp).clroot S (clp S hc p hp) (clr S hc e p hp) _ ((L p hp).parm i hi e1)
            rw [h1] at this; cases this
      obtain ⟨d1, d2⟩ := (L p hp).down S i (clp S hc p hp) hi hs fun _ => hpi (rne p hp i hi)
      have hd0 : (S.del i) r = false := by rw [Sn.del_ne _ (fun e => rne p hp i hi e.symm)]; exact h0
      refine ⟨⟨hd0, .inr ⟨p, hp, d1⟩⟩, ?_⟩
      show (if (S.del i) r then w else _) = (if S r then w else _) - W i + G i
      rw [hd0, h0]
      simp only [Bool.false_eq_true, if_false]
      have := sum_but_eq P.nd hp (f := fun p => (mac p).held (S.del i)) (g := fun p => (mac p).held S) fun q hq hne => (P.ok q hq).held fun j hj => Sn.del_ne _ (by rintro rfl; exact P.disj q hq p hp hne j hj hi)
      exact ar277 d2 this
  · rintro S i u hc ⟨h0, ⟨rfl, rfl, hf⟩ | ⟨p, hp, hs⟩⟩
    · exact ⟨h0, hw.symm, fun h => absurd rfl h⟩
    · obtain ⟨a, b, c⟩ := (L p hp).up S i u (clp S hc p hp) hs
      refine ⟨a, b, fun _ => ?_⟩
      by_cases e : i = p.toNat
      · rw [e, hpar p hp]; exact h0
      · exact c e
  · rintro S i u hc ⟨h0, g⟩ j hj hr hs
    rcases hj with hj | ⟨q, hq, hj⟩
    · exact absurd hj hr
    rcases Sn.add_true hs with h1 | h1
    · have := hc j (.inr ⟨q, hq, hj⟩) hr h1
      unfold Sn.add; rw [this]; rfl
    · have hSj : S j = true ∨ (S.add i) j = true := by
        rcases g with ⟨rfl, _, hf⟩ | ⟨p, hp, hs'⟩
        · by_cases e : j = q.toNat
          · left
            rw [e]; exact ((L q hq).finr S).mp (hf q hq)
          · exact absurd h1 (rne q hq _ ((L q hq).parm j hj e))
        · have hi := (P.ok p hp).mem hs'
          by_cases e : j = q.toNat
          · rw [e, hpar q hq] at h1
            exact absurd h1.symm (rne p hp i hi)
          · have hpj := (L q hq).parm j hj e
            rw [h1] at hpj
            have hpq : p = q := by
              apply Classical.byContradiction
              intro hne
              exact P.disj p hp q hq hne i hi hpj
            subst hpq
            exact .inr ((L p hp).upcl S i u (clp S hc p hp) hs' j hj e hs)
      rcases hSj with h | h
      · unfold Sn.add; rw [h]; rfl
      · exact h
  · rintro i (h | ⟨p, hp, hi⟩) hr
    · exact absurd h hr
    · by_cases e : i = p.toNat
      · rw [e, hpar p hp]; exact fun h => rne p hp _ (L p hp).rootm h.symm
      · exact (L p hp).parne i hi e
/-- the closed sets are few -/
def Few (M : Mac) (root : Nat) (par : Nat → Nat) (n : Nat) : Prop := ∃ C : List Sn, C.length ≤ n ∧ ∀ S, Cl M root par S → ∃ T ∈ C, Agree M T S
theorem few_parts {f : Int → Nat} : ∀ (ps : List Int), (∀ p ∈ ps, Few (mac p) p.toNat par (f p)) →
    ∃ C : List Sn, C.length ≤ (ps.map f).foldr (· * ·) 1 ∧ ∀ S, (∀ p ∈ ps, Cl (mac p) p.toNat par S) → ∃ T ∈ C, ∀ p ∈ ps, Agree (mac p) T S
  | [], _ => ⟨[fun _ => false], by exact Nat.succ_pos _, fun S _ => ⟨_, List.mem_singleton.mpr rfl, by simp⟩⟩
  | p :: ps, h => by
    obtain ⟨C, c1, c2⟩ := h p List.mem_cons_self
    obtain ⟨D, d1, d2⟩ := few_parts ps fun q hq => h q (List.mem_cons_of_mem _ hq)
    classical
    refine ⟨C.flatMap fun T => D.map fun U => fun i => if (mac p).ids i then T i else U i, ?_, fun S hS => ?_⟩
    · rw [List.length_flatMap]
      simp only [List.length_map, List.map_cons, List.foldr_cons]
      have : (C.map fun _ => D.length).sum = C.length * D.length := by
        clear c1 c2
        induction C with
        | nil => simp
        | cons a r ih => rw [List.map_cons, List.sum_cons, ih, List.length_cons, Nat.succ_mul, Nat.add_comm]
      rw [this]
      exact Nat.mul_le_mul c1 d1
    · obtain ⟨T, hT, t2⟩ := c2 S (hS p List.mem_cons_self)
      obtain ⟨U, hU, u2⟩ := d2 S fun q hq => hS q (List.mem_cons_of_mem _ hq)
      refine ⟨_, List.mem_flatMap.mpr ⟨T, hT, List.mem_map.mpr ⟨U, hU, rfl⟩⟩, fun q hq i hi => ?_⟩
      split
      · rename_i h; exact t2 i h
      · rename_i h
        rcases List.mem_cons.mp hq with rfl | hq
        · exact absurd hi h
        · exact u2 q hq i hi
theorem node_few (P : Parts r ps mac) (L : ∀ p ∈ ps, MLink (mac p) p.toNat par W G) (hL : MLink (node r w ps mac) r par W G) {f : Int → Nat} (h : ∀ p ∈ ps, Few (mac p) p.toNat par (f p)) :
    Few (node r w ps mac) r par (1 + (ps.map f).foldr (· * ·) 1) := by
  obtain ⟨C, c1, c2⟩ := few_parts ps h
  refine ⟨(fun _ => true) :: C.map (fun T => T.del r), by simp; exact ar278 c1, fun S hS => ?_⟩
  cases h0 : S r with
  | true => exact ⟨_, List.mem_cons_self, fun i hi => (hL.clroot S hS h0 i hi).symm⟩
  | false =>
    have rne : ∀ p ∈ ps, ∀ i, (mac p).ids i → i ≠ r := fun p hp i hi e => P.root p hp (e ▸ hi)
    obtain ⟨T, hT, t2⟩ := c2 S fun p hp i hi _ hs => hS i (.inr ⟨p, hp, hi⟩) (rne p hp i hi) hs
    refine ⟨T.del r, List.mem_cons_of_mem _ (List.mem_map.mpr ⟨T, hT, rfl⟩), ?_⟩
    rintro i (rfl | ⟨p, hp, hi⟩)
    · rw [Sn.del_self, h0]
    · rw [Sn.del_ne _ (rne p hp i hi)]; exact t2 p hp i hi
end
theorem Few.congr {M : Mac} {root : Nat} {par par' : Nat → Nat} {n m : Nat} (F : Few M root par n) (h1 : ∀ i, M.ids i → i ≠ root → par' i = par i) (hn : n ≤ m) : Few M root par' m := by
  obtain ⟨C, c1, c2⟩ := F
  exact ⟨C, (ar81 hn c1), fun S h => c2 S fun i hi hr => by have := h i hi hr; rw [h1 i hi hr] at this; exact this⟩
end Mine
end
section
open PySem PySem.W PyProof.Rows PySem.SeqAt
set_option Elab.async false
set_option linter.unusedVariables false
set_option linter.unnecessarySimpa false
set_option linter.unusedSimpArgs false
namespace Mine
def nilMac : Mac := ⟨fun _ => 0, fun _ _ _ => False, fun _ => False, fun _ => False⟩
def macOf (ms : List Mac) (p : Int) : Mac := ms.getD p.toNat nilMac
structure BS where
  t : TS
  ms : List Mac
  lv : List Nat
def lvOf (b : BS) (s : Int) : Nat := if arity s = 0 then 1 else ((partsOf b.t s).map fun x => b.lv.getD x.toNat 0).sum
def bStep (b : BS) (s : Int) : BS := ⟨treeStep b.t s, b.ms ++ [node b.t.p.length (weightOf s) (partsOf b.t s) (macOf b.ms)], b.lv ++ [lvOf b s]⟩
def bRun (rs : List Int) : BS := rs.foldl bStep ⟨TS.init, [], []⟩
theorem bRun_t (rs : List Int) : (bRun rs).t = treeRun rs := by
  unfold bRun treeRun
  have : ∀ (rs : List Int) (b : BS), (rs.foldl bStep b).t = rs.foldl treeStep b.t := by
    intro rs
    induction rs with
    | nil => intro b; rfl
    | cons s r ih => intro b; rw [List.foldl_cons, List.foldl_cons, ih]; rfl
  exact this rs _
def gB (n : Nat) : Nat := [1, 2, 5, 11, 26, 56].getD n 0
def parO (o : List Int) (i : Nat) : Nat := (o.getD i 0).toNat.log2
def WO (l : List Int) (i : Nat) : Int := l.getD i 0
structure Nd (b : BS) (x : Int) : Prop where
  ok : MOk (macOf b.ms x)
  liu : Liu (macOf b.ms x) (b.t.p.getD x.toNat [])
  bd : ∀ i, (macOf b.ms x).ids i → i < b.t.p.length
  link : MLink (macOf b.ms x) x.toNat (parO b.t.o) (WO b.t.w) (WO b.t.g)
  oroot : b.t.o.getD x.toNat 0 = 0
  opar : ∀ i, (macOf b.ms x).ids i → i ≠ x.toNat → b.t.o.getD i 0 = 2 ^ parO b.t.o i
  few : Few (macOf b.ms x) x.toNat (parO b.t.o) (gB (b.lv.getD x.toNat 0))
  lv : 1 ≤ b.lv.getD x.toNat 0
structure BOk (b : BS) : Prop where
  tok : TOk b.t
  lm : b.ms.length = b.t.p.length
  ll : b.lv.length = b.t.p.length
  nd : ∀ x ∈ b.t.pile, Nd b x
  disj : ∀ x ∈ b.t.pile, ∀ y ∈ b.t.pile, x ≠ y → ∀ i, (macOf b.ms x).ids i → ¬ (macOf b.ms y).ids i
  cov : ∀ i, i < b.t.p.length → ∃ x ∈ b.t.pile, (macOf b.ms x).ids i
theorem getD_app {α : Type} (l : List α) (x : α) {i : Nat} {d : α} (h : i < l.length) : (l ++ [x]).getD i d = l.getD i d := by
  simp [List.getD_eq_getElem?_getD, List.getElem?_append_left h]
theorem getD_end {α : Type} (l : List α) (x : α) {d : α} : (l ++ [x]).getD l.length d = x := by simp [List.getD_eq_getElem?_getD]
theorem overSet_at (n : Nat) : ∀ (ps : List Int) (o : List Int) (i : Nat), i < o.length → (overSet n o ps).getD i 0 = if ∃ q ∈ ps, q.toNat = i then 2 ^ n else o.getD i 0
  | [], o, i, _ => by rfl
  | q :: ps, o, i, hi => by
    show (overSet n (o.set q.toNat (2 ^ n)) ps).getD i 0 = _
    rw [overSet_at n ps _ i (by simpa using hi)]
    by_cases h : ∃ q ∈ ps, q.toNat = i
    · obtain ⟨p, hp, e⟩ := h
      rw [if_pos ⟨p, hp, e⟩, if_pos ⟨p, List.mem_cons_of_mem _ hp, e⟩]
    · rw [if_neg h]
      by_cases e : q.toNat = i
      · rw [if_pos ⟨q, List.mem_cons_self, e⟩]
        subst e
        simp [List.getD_eq_getElem?_getD, List.getElem?_set, hi]
      · rw [if_neg]
        · simp [List.getD_eq_getElem?_getD, List.getElem?_set, e]
        · rintro ⟨p, hp, e2⟩
          rcases List.mem_cons.mp hp with rfl | hp
          · exact e e2
          · exact h ⟨p, hp, e2⟩
theorem Nd.mono {b b' : BS} {x : Int} (h : Nd b x) (e1 : macOf b'.ms x = macOf b.ms x) (e2 : b'.t.p.getD x.toNat [] = b.t.p.getD x.toNat []) (e3 : b.t.p.length ≤ b'.t.p.length)
    (e4 : ∀ i, i < b.t.p.length → WO b'.t.w i = WO b.t.w i) (e5 : ∀ i, i < b.t.p.length → WO b'.t.g i = WO b.t.g i) (e6 : ∀ i, (macOf b.ms x).ids i → b'.t.o.getD i 0 = b.t.o.getD i 0) (e7 : b'.lv.getD x.toNat 0 = b.lv.getD x.toNat 0) : Nd b' x := by
  have ep : ∀ i, (macOf b.ms x).ids i → parO b'.t.o i = parO b.t.o i := fun i hi => by unfold parO; rw [e6 i hi]
  refine ⟨by rw [e1]; exact h.ok, by rw [e1, e2]; exact h.liu, by rw [e1]; exact fun i hi => Nat.lt_of_lt_of_le (h.bd i hi) e3, ?_, ?_, ?_, ?_, by rw [e7]; exact h.lv⟩
  · rw [e1]
    exact h.link.congr (fun i hi _ => ep i hi) (fun i hi => e4 i (h.bd i hi)) (fun i hi => e5 i (h.bd i hi)) h.ok
  · rw [e6 _ h.link.rootm]; exact h.oroot
  · rw [e1]
    intro i hi hr
    rw [e6 i hi, ep i hi]; exact h.opar i hi hr
  · rw [e1, e7]
    exact h.few.congr (fun i hi _ => ep i hi) (Nat.le_refl _)
theorem gB2 : ∀ a b : Nat, 1 ≤ a → 1 ≤ b → a + b ≤ 5 → 1 + gB a * (gB b * 1) ≤ gB (a + b) := by
  have : ∀ a : Fin 6, ∀ b : Fin 6, 1 ≤ a.val → 1 ≤ b.val → a.val + b.val ≤ 5 → 1 + gB a.val * (gB b.val * 1) ≤ gB (a.val + b.val) := by decide
  exact fun a b h1 h2 h3 => this ⟨a, (ar316 h3)⟩ ⟨b, (ar317 h3)⟩ h1 h2 h3
theorem gB3 : ∀ a b c : Nat, 1 ≤ a → 1 ≤ b → 1 ≤ c → a + b + c ≤ 5 → 1 + gB a * (gB b * (gB c * 1)) ≤ gB (a + (b + (c + 0))) := by
  have : ∀ a : Fin 6, ∀ b : Fin 6, ∀ c : Fin 6, 1 ≤ a.val → 1 ≤ b.val → 1 ≤ c.val → a.val + b.val + c.val ≤ 5 → 1 + gB a.val * (gB b.val * (gB c.val * 1)) ≤ gB (a.val + (b.val + (c.val + 0))) := by decide
  exact fun a b c h1 h2 h3 h4 => this ⟨a, (ar318 h4)⟩ ⟨b, (ar319 h4)⟩ ⟨c, (ar320 h4)⟩ h1 h2 h3 h4
theorem arity_or (s : Int) : arity s = 0 ∨ arity s = 2 ∨ arity s = 3 := by unfold arity; split <;> (try split) <;> decide +kernel
theorem few_bound {b : BS} {s : Int} (hl : (partsOf b.t s).length = arity s) (h1 : ∀ p ∈ partsOf b.t s, 1 ≤ b.lv.getD p.toNat 0) (h5 : lvOf b s ≤ 5) :
    1 ≤ lvOf b s ∧ 1 + ((partsOf b.t s).map fun p => gB (b.lv.getD p.toNat 0)).foldr (· * ·) 1 ≤ gB (lvOf b s) := by
  unfold lvOf at *
  generalize partsOf b.t s = ps at *
  rcases arity_or s with e | e | e
  · rw [e] at hl
    obtain rfl := List.eq_nil_of_length_eq_zero hl
    rw [if_pos e]
    exact ⟨by constructor, by show 1 + 1 ≤ gB 1; constructor⟩
  · rw [e] at hl
    match ps, hl with
    | [p, q], _ =>
      rw [if_neg (ar87 e)] at h5 ⊢
      have a := h1 p (by exact .head _)
      have c := h1 q (by exact List.mem_cons_of_mem _ List.mem_cons_self)
      simp only [List.map_cons, List.map_nil, List.sum_cons, List.sum_nil, List.foldr_cons, List.foldr_nil] at *
      exact ⟨(ar321 a), gB2 _ _ a c (ar322 h5)⟩
  · rw [e] at hl
    match ps, hl with
    | [p, q, r], _ =>
      rw [if_neg (ar88 e)] at h5 ⊢
      have a := h1 p (by exact .head _)
      have c := h1 q (by exact List.mem_cons_of_mem _ List.mem_cons_self)
      have d := h1 r (by simp)
      simp only [List.map_cons, List.map_nil, List.sum_cons, List.sum_nil, List.foldr_cons, List.foldr_nil] at *
      exact ⟨(ar323 a), gB3 _ _ _ a c d (ar324 h5)⟩
theorem bStep_ok {b : BS} (h : BOk b) {s : Int} (ha : arity s ≤ b.t.pile.length) (hw : 0 < weightOf s) (h5 : lvOf b s ≤ 5) : BOk (bStep b s) := by
  have hmem : ∀ x ∈ partsOf b.t s, x ∈ b.t.pile := fun x hx => by unfold partsOf at hx; exact List.mem_reverse.mp (List.mem_of_mem_take hx)
  have hsplit : b.t.pile = b.t.pile.take (b.t.pile.length - arity s) ++ (partsOf b.t s).reverse := by
    unfold partsOf
    rw [List.take_reverse, List.reverse_reverse, List.take_append_drop]
  have hnd := h.tok.nd
  have ndp : (partsOf b.t s).Nodup := by
    rw [hsplit, List.nodup_append] at hnd
    exact (List.reverse_perm _).nodup_iff.mp hnd.2.1
  have hsep : ∀ x ∈ b.t.pile.take (b.t.pile.length - arity s), x ∉ partsOf b.t s := fun x hx hp => by
    rw [hsplit, List.nodup_append] at hnd
    exact hnd.2.2 x hx x (List.mem_reverse.mpr hp) rfl
  have hpl : (partsOf b.t s).length = arity s := by unfold partsOf; simp; exact ar325 ha
  have tok' := treeStep_ok h.tok ha
  have hq := h.tok.q
  have hmac : ∀ x ∈ b.t.pile, macOf (bStep b s).ms x = macOf b.ms x := fun x hx => by
    have := (hq x hx).2
    unfold macOf bStep
    exact getD_app _ _ (by rw [h.lm]; exact this)
  have hN : macOf (bStep b s).ms ((b.t.p.length : Nat) : Int) = node b.t.p.length (weightOf s) (partsOf b.t s) (macOf b.ms) := by
    have e1 : (((b.t.p.length : Nat) : Int)).toNat = b.ms.length := by rw [h.lm]; simp
    unfold macOf bStep
    rw [e1]; exact getD_end _ _
  have hW : ∀ i, i < b.t.p.length → WO (bStep b s).t.w i = WO b.t.w i := fun i hi => by
    unfold WO bStep treeStep; exact getD_app _ _ (by rw [h.tok.w]; exact hi)
  have hG : ∀ i, i < b.t.p.length → WO (bStep b s).t.g i = WO b.t.g i := fun i hi => by
    unfold WO bStep treeStep; exact getD_app _ _ (by rw [h.tok.g]; exact hi)
  have hO : ∀ i, i < b.t.p.length → (bStep b s).t.o.getD i 0 = if ∃ q ∈ partsOf b.t s, q.toNat = i then 2 ^ b.t.p.length else b.t.o.getD i 0 := fun i hi => by
    unfold bStep treeStep
    dsimp only
    rw [getD_app _ _ (by rw [overSet_len, h.tok.o]; exact hi), overSet_at _ _ _ _ (by rw [h.tok.o]; exact hi)]
  have hidroot : ∀ q ∈ b.t.pile, (macOf b.ms q).ids q.toNat := fun q hq => (h.nd q hq).link.rootm
  have hO1 : ∀ p ∈ b.t.pile, ∀ i, (macOf b.ms p).ids i → (p ∉ partsOf b.t s ∨ i ≠ p.toNat) → (bStep b s).t.o.getD i 0 = b.t.o.getD i 0 := fun p hp i hi hor => by
    rw [hO i ((h.nd p hp).bd i hi), if_neg]
    rintro ⟨q, hq', e⟩
    by_cases hpq : q = p
    · subst hpq
      rcases hor with g | g
      · exact g hq'
      · exact g e.symm
    · exact h.disj p hp q (hmem q hq') (fun e => hpq e.symm) i hi (e ▸ hidroot q (hmem q hq'))
  have hO2 : ∀ p ∈ partsOf b.t s, (bStep b s).t.o.getD p.toNat 0 = 2 ^ b.t.p.length := fun p hp => by
    rw [hO _ (hq p (hmem p hp)).2, if_pos ⟨p, hp, rfl⟩]
  have hpar1 : ∀ p ∈ partsOf b.t s, ∀ i, (macOf b.ms p).ids i → i ≠ p.toNat → parO (bStep b s).t.o i = parO b.t.o i := fun p hp i hi hne => by
    unfold parO; rw [hO1 p (hmem p hp) i hi (.inr hne)]
  have hpar2 : ∀ p ∈ partsOf b.t s, parO (bStep b s).t.o p.toNat = b.t.p.length := fun p hp => by
    unfold parO
    rw [hO2 p hp]
    have : ((2 : Int) ^ b.t.p.length).toNat = 2 ^ b.t.p.length := by
      have e : ((2 : Int) ^ b.t.p.length) = ((2 ^ b.t.p.length : Nat) : Int) := by simp
      rw [e, Int.toNat_natCast]
    rw [this, Nat.log2_two_pow]
  have hlv : ∀ x ∈ b.t.pile, (bStep b s).lv.getD x.toNat 0 = b.lv.getD x.toNat 0 := fun x hx => by
    unfold bStep; exact getD_app _ _ (by rw [h.ll]; exact (hq x hx).2)
  have P : Parts b.t.p.length (partsOf b.t s) (macOf b.ms) := ⟨ndp, fun p hp => (h.nd p (hmem p hp)).ok, fun p hp q hq => h.disj p (hmem p hp) q (hmem q hq), fun p hp hi => by have := (h.nd p (hmem p hp)).bd _ hi; exact ar89 this⟩
  have linkP : ∀ p ∈ partsOf b.t s, MLink (macOf b.ms p) p.toNat (parO (bStep b s).t.o) (WO (bStep b s).t.w) (WO (bStep b s).t.g) := fun p hp => by
    have N := h.nd p (hmem p hp)
    exact N.link.congr (hpar1 p hp) (fun i hi => hW i (N.bd i hi)) (fun i hi => hG i (N.bd i hi)) N.ok
  have hlen : (bStep b s).t.p.length = b.t.p.length + 1 := by unfold bStep treeStep; simp
  have hwN : WO (bStep b s).t.w b.t.p.length = weightOf s := by
    unfold WO bStep treeStep; dsimp only; rw [← h.tok.w]; exact getD_end _ _
  have hgN : WO (bStep b s).t.g b.t.p.length = ((partsOf b.t s).map fun p => WO (bStep b s).t.w p.toNat).sum := by
    have e1 : WO (bStep b s).t.g b.t.p.length = ((partsOf b.t s).map fun q => b.t.w.getD q.toNat 0).sum := by
      unfold WO bStep treeStep; dsimp only; rw [← h.tok.g]; exact getD_end _ _
    rw [e1]
    exact sum_eq fun p hp => (hW _ (hq p (hmem p hp)).2).symm
  have linkN : MLink (node b.t.p.length (weightOf s) (partsOf b.t s) (macOf b.ms)) b.t.p.length (parO (bStep b s).t.o) (WO (bStep b s).t.w) (WO (bStep b s).t.g) := node_link P hwN hgN linkP hpar2
  obtain ⟨lv1, lv2⟩ := few_bound hpl (fun p hp => (h.nd p (hmem p hp)).lv) h5
  have hlvN : (bStep b s).lv.getD b.t.p.length 0 = lvOf b s := by unfold bStep; dsimp only; rw [← h.ll]; exact getD_end _ _
  have old : ∀ x ∈ b.t.pile.take (b.t.pile.length - arity s), Nd (bStep b s) x := fun x hx => by
    have hx' := List.mem_of_mem_take hx
    refine (h.nd x hx').mono (hmac x hx') ?_ (ar326 hlen) hW hG (fun i hi => hO1 x hx' i hi (.inl (hsep x hx))) (hlv x hx')
    unfold bStep treeStep; exact getD_app _ _ (hq x hx').2
  have new : Nd (bStep b s) ((b.t.p.length : Nat) : Int) := by
    have eT : (((b.t.p.length : Nat) : Int)).toNat = b.t.p.length := by simp
    have idsb : ∀ i, (node b.t.p.length (weightOf s) (partsOf b.t s) (macOf b.ms)).ids i → i < b.t.p.length + 1 := by
      rintro i (rfl | ⟨p, hp, hi⟩)
      · exact ar34
      · have := (h.nd p (hmem p hp)).bd i hi; exact ar33 this
    constructor
    · rw [hN]; exact node_ok P (Int.le_of_lt hw)
    · rw [hN, eT]
      have ep : (bStep b s).t.p.getD b.t.p.length [] = pathL b.t.p (partsOf b.t s) (weightOf s) := by unfold bStep treeStep; exact getD_end _ _
      rw [ep]
      exact path_liu P hw fun p hp => (h.nd p (hmem p hp)).liu
    · rw [hN, hlen]; exact idsb
    · rw [hN, eT]; exact linkN
    · rw [eT]
      unfold bStep treeStep
      dsimp only
      have e := getD_end (overSet b.t.p.length b.t.o (partsOf b.t s)) 0 (d := (0 : Int))
      rw [overSet_len, h.tok.o] at e
      exact e
    · rw [hN, eT]
      rintro i (rfl | ⟨p, hp, hi⟩) hne
      · exact absurd rfl hne
      · by_cases e : i = p.toNat
        · rw [e, hpar2 p hp, hO2 p hp]
        · rw [hpar1 p hp i hi e, hO1 p (hmem p hp) i hi (.inr e)]
          exact (h.nd p (hmem p hp)).opar i hi e
    · rw [hN, eT, hlvN]
      refine (node_few P linkP linkN (f := fun p => gB (b.lv.getD p.toNat 0)) fun p hp => ?_).congr (fun _ _ _ => rfl) lv2
      exact (h.nd p (hmem p hp)).few.congr (hpar1 p hp) (Nat.le_refl _)
    · rw [eT, hlvN]; exact lv1
  have hpile : (bStep b s).t.pile = b.t.pile.take (b.t.pile.length - arity s) ++ [((b.t.p.length : Nat) : Int)] := rfl
  refine ⟨tok', by unfold bStep treeStep; simp [h.lm], by unfold bStep treeStep; simp [h.ll], fun x hx => ?_, ?_, ?_⟩
  · rw [hpile] at hx
    rcases List.mem_append.mp hx with hx | hx
    · exact old x hx
    · simp at hx; subst hx; exact new
  · rw [hpile]
    have sepN : ∀ x ∈ b.t.pile.take (b.t.pile.length - arity s), ∀ i, (macOf b.ms x).ids i → ¬ (node b.t.p.length (weightOf s) (partsOf b.t s) (macOf b.ms)).ids i := by
      rintro x hx i hi (rfl | ⟨p, hp, hi'⟩)
      · have := (h.nd x (List.mem_of_mem_take hx)).bd _ hi; exact ar89 this
      · exact h.disj x (List.mem_of_mem_take hx) p (hmem p hp) (by rintro rfl; exact hsep _ hx hp) i hi hi'
    intro x hx y hy hne i hi hj
    rcases List.mem_append.mp hx with hx | hx <;> rcases List.mem_append.mp hy with hy | hy
    · rw [hmac x (List.mem_of_mem_take hx)] at hi
      rw [hmac y (List.mem_of_mem_take hy)] at hj
      exact h.disj x (List.mem_of_mem_take hx) y (List.mem_of_mem_take hy) hne i hi hj
    · simp at hy; subst hy
      rw [hmac x (List.mem_of_mem_take hx)] at hi
      rw [hN] at hj
      exact sepN x hx i hi hj
    · simp at hx; subst hx
      rw [hmac y (List.mem_of_mem_take hy)] at hj
      rw [hN] at hi
      exact sepN y hy i hj hi
    · simp at hx hy; exact hne (hx.trans hy.symm)
  · intro i hi
    rw [hlen] at hi
    rw [hpile]
    by_cases e : i = b.t.p.length
    · exact ⟨_, List.mem_append_right _ (List.mem_singleton.mpr rfl), by rw [hN]; exact .inl e⟩
    · obtain ⟨x, hx, hxi⟩ := h.cov i (ar29 hi e)
      by_cases hp : x ∈ partsOf b.t s
      · exact ⟨_, List.mem_append_right _ (List.mem_singleton.mpr rfl), by rw [hN]; exact .inr ⟨x, hp, hxi⟩⟩
      · refine ⟨x, List.mem_append_left _ ?_, by rw [hmac x hx]; exact hxi⟩
        rw [hsplit] at hx
        rcases List.mem_append.mp hx with h1 | h1
        · exact h1
        · exact absurd (List.mem_reverse.mp h1) hp
end Mine
end
section
open PySem PySem.W PyProof.Rows PySem.SeqAt
set_option Elab.async false
set_option linter.unusedVariables false
set_option linter.unnecessarySimpa false
set_option linter.unusedSimpArgs false
namespace Mine
/-! ### bits -/
theorem bit_add {q i : Nat} (h : q.testBit i = false) {j : Nat} (hj : j ≠ i) : (2 ^ i + q).testBit j = q.testBit j := by
  rcases Nat.lt_or_ge j i with e | e
  · exact Nat.testBit_two_pow_add_gt e q
  · have e2 : ∀ x : Nat, x.testBit j = (x / 2 ^ (i + 1)).testBit (j - (i + 1)) := fun x => by
      rw [Nat.testBit_div_two_pow]; congr 1; exact ar382 hj e
    rw [e2, e2 q]
    congr 1
    rw [Nat.testBit_eq_decide_div_mod_eq] at h
    have h : q / 2 ^ i % 2 ≠ 1 := by simpa using h
    have hp : 0 < 2 ^ i := Nat.two_pow_pos i
    rw [Nat.pow_succ, ← Nat.div_div_eq_div_mul, ← Nat.div_div_eq_div_mul, Nat.add_div_left _ hp]
    exact ar383 h
theorem bit_sub {m i : Nat} (h : m.testBit i = true) : (m - 2 ^ i).testBit i = false ∧ ∀ j, j ≠ i → (m - 2 ^ i).testBit j = m.testBit j := by
  have hge := Nat.ge_two_pow_of_testBit h
  obtain ⟨q, rfl⟩ : ∃ q, m = 2 ^ i + q := ⟨m - 2 ^ i, (ar384 hge)⟩
  have e : 2 ^ i + q - 2 ^ i = q := ar385
  rw [e]
  have h1 : q.testBit i = false := by
    rw [Nat.testBit_two_pow_add_eq] at h
    simpa using h
  exact ⟨h1, fun j hj => (bit_add h1 hj).symm⟩
def bits (m : Int) : Sn := fun i => m.toNat.testBit i
theorem toNat_pow (i : Nat) : ((2 : Int) ^ i).toNat = 2 ^ i := by
  have e : ((2 : Int) ^ i) = ((2 ^ i : Nat) : Int) := by simp
  rw [e, Int.toNat_natCast]
theorem pow_nn (i : Nat) : (0 : Int) ≤ 2 ^ i := by
  have e : ((2 : Int) ^ i) = ((2 ^ i : Nat) : Int) := by simp
  rw [e]; exact Int.natCast_nonneg _
theorem and_pow {m : Int} (hm : 0 ≤ m) (i : Nat) : (Builtin.bitAnd m (2 ^ i) != 0) = bits m i := by
  unfold Builtin.bitAnd
  rw [decide_eq_true hm, decide_eq_true (pow_nn i)]
  dsimp only
  rw [toNat_pow]
  unfold bits
  have h : (m.toNat &&& 2 ^ i != 0) = m.toNat.testBit i := by
    cases e : m.toNat.testBit i with
    | true =>
      have : (m.toNat &&& 2 ^ i).testBit i = true := by rw [Nat.testBit_and, e, Nat.testBit_two_pow_self]; rfl
      rw [bne_iff_ne]
      intro h0
      rw [h0, Nat.zero_testBit] at this; cases this
    | false =>
      have : m.toNat &&& 2 ^ i = 0 := by
        apply Nat.eq_of_testBit_eq
        intro j
        rw [Nat.testBit_and, Nat.testBit_two_pow, Nat.zero_testBit]
        by_cases hj : i = j
        · subst hj; rw [e]; rfl
        · simp [hj]
      rw [this]; rfl
  rw [← h]
  generalize m.toNat &&& 2 ^ i = k
  cases k with
  | zero => rfl
  | succ k => simp; exact ar386
theorem and_zero {m : Int} (hm : 0 ≤ m) : (Builtin.bitAnd m 0 != 0) = false := by
  unfold Builtin.bitAnd
  rw [decide_eq_true hm, decide_eq_true (Int.le_refl 0)]
  simp
theorem bits_sub {m : Int} {i : Nat} (hm : 0 ≤ m) (h : bits m i = true) : 0 ≤ m - 2 ^ i ∧ bits (m - 2 ^ i) = (bits m).del i := by
  have hge := Nat.ge_two_pow_of_testBit (x := m.toNat) (i := i) h
  have hp := pow_nn i
  have ht := toNat_pow i
  refine ⟨(ar387 hm hge ht), ?_⟩
  have e : (m - 2 ^ i).toNat = m.toNat - 2 ^ i := ar388 hp ht
  obtain ⟨b1, b2⟩ := bit_sub (m := m.toNat) (i := i) h
  funext j
  unfold bits Sn.del
  rw [e]
  by_cases hj : j = i
  · subst hj; rw [b1]; simp
  · rw [b2 j hj]; simp [hj]
theorem bits_lt {m : Int} {n : Nat} (hm : m < 2 ^ n) {i : Nat} (hi : n ≤ i) : bits m i = false := by
  unfold bits
  apply Nat.testBit_lt_two_pow
  have := toNat_pow n
  have h2 : 2 ^ n ≤ 2 ^ i := Nat.pow_le_pow_right (ar389) hi
  have := Nat.two_pow_pos n
  exact ar390 hm (by assumption) h2 this
theorem bits_full {n : Nat} (i : Nat) : bits (2 ^ n - 1) i = decide (i < n) := by
  unfold bits
  have : ((2 : Int) ^ n - 1).toNat = 2 ^ n - 1 := by have := toNat_pow n; exact ar391 this
  rw [this, Nat.testBit_two_pow_sub_one]
theorem bits_inj {a b : Int} (ha : 0 ≤ a) (hb : 0 ≤ b) (h : ∀ i, bits a i = bits b i) : a = b := by
  have : a.toNat = b.toNat := Nat.eq_of_testBit_eq h
  exact ar392 ha hb this
end Mine
end
section
open PySem PySem.W PyProof.Rows PySem.SeqAt
set_option Elab.async false
set_option linter.unusedVariables false
set_option linter.unnecessarySimpa false
set_option linter.unusedSimpArgs false
namespace Mine
/-! ### the program's states -/
structure TopM (N : Nat) (w g o : List Int) (M : Mac) : Prop where
  n0 : 0 < N
  wl : w.length = N
  ok : MOk M
  ids : ∀ i, M.ids i ↔ i < N
  link : MLink M (N - 1) (parO o) (WO w) (WO g)
  oroot : o.getD (N - 1) 0 = 0
  opar : ∀ i, i < N → i ≠ N - 1 → o.getD i 0 = 2 ^ parO o i
section
variable {N : Nat} {w g o : List Int} {M : Mac}
structure Key (N : Nat) (o : List Int) (M : Mac) (s : SSt) (m : Int) : Prop where
  nn : 0 ≤ m
  lt : m < 2 ^ N
  cl : Cl M (N - 1) (parO o) (bits m)
  held : dgetI s.held m = some (M.held (bits m))
  pk : ∃ pk, dgetI s.peaks m = some pk ∧ 0 ≤ pk ∧ Run M pk (bits m)
def Sound (N : Nat) (o : List Int) (M : Mac) (s : SSt) : Prop := ∀ m ∈ s.held.map (·.1), Key N o M s m
theorem test_iff (T : TopM N w g o M) {m : Int} (hm : 0 ≤ m) {i : Nat} (hi : i < N) : stTest o m i = true ↔ bits m i = true ∧ (i ≠ N - 1 → bits m (parO o i) = false) := by
  unfold stTest
  rw [and_pow hm, Bool.and_eq_true]
  refine and_congr Iff.rfl ?_
  by_cases e : i = N - 1
  · rw [e, T.oroot, and_zero hm]; simp
  · rw [T.opar i hi e, and_pow hm]; simp [e]
theorem del_add {S : Sn} {i : Nat} (h : S i = true) : (S.del i).add i = S := by
  funext j
  by_cases e : j = i
  · subst e; rw [Sn.add_self, h]
  · rw [Sn.add_ne _ e, Sn.del_ne _ e]
/-- what a passed test gives -/
structure Less (N : Nat) (w g o : List Int) (M : Mac) (m : Int) (i : Nat) : Prop where
  nn : 0 ≤ m - 2 ^ i
  lt : m - 2 ^ i < 2 ^ N
  bits : bits (m - 2 ^ i) = (bits m).del i
  cl : Cl M (N - 1) (parO o) (Mine.bits (m - 2 ^ i))
  stp : M.stp (Mine.bits (m - 2 ^ i)) i (WO w i)
  held : M.held (Mine.bits (m - 2 ^ i)) = M.held (Mine.bits m) - WO w i + WO g i
  back : (Mine.bits (m - 2 ^ i)).add i = Mine.bits m
theorem less_ok (T : TopM N w g o M) {m : Int} (hm : 0 ≤ m) (hlt : m < 2 ^ N) (hcl : Cl M (N - 1) (parO o) (bits m)) {i : Nat} (hi : i < N) (h : stTest o m i = true) : Less N w g o M m i := by
  obtain ⟨h1, h2⟩ := (test_iff T hm hi).mp h
  obtain ⟨b1, b2⟩ := bits_sub hm h1
  obtain ⟨d1, d2⟩ := T.link.down (bits m) i hcl ((T.ids i).mpr hi) h1 h2
  have hp := pow_nn i
  exact ⟨b1, (ar240 hlt hp), b2, by rw [b2]; exact hcl.del h2, by rw [b2]; exact d1, by rw [b2]; exact d2, by rw [b2]; exact del_add h1⟩
theorem step_sound (T : TopM N w g o M) {s : SSt} (hs : Sound N o M s) (sok : SOk s) {d : Int} (hd : d ∈ s.held.map (·.1)) {i : Nat} (hi : i < N) : Sound N o M (stStep w g o d s i) := by
  unfold stStep
  split
  · rename_i ht
    have K := hs d hd
    have L := less_ok T K.nn K.lt K.cl hi ht
    obtain ⟨pd, p1, p2, p3⟩ := K.pk
    have hA : dgetI (stLess w g d s i).held (d - 2 ^ i) = some (M.held (bits (d - 2 ^ i))) ∧ (∀ m, m ≠ d - 2 ^ i → dgetI (stLess w g d s i).held m = dgetI s.held m) ∧ (stLess w g d s i).peaks = s.peaks := by
      unfold stLess
      split
      · rename_i e
        exact ⟨(hs _ (dgetI_some.mp e)).held, fun _ _ => rfl, rfl⟩
      · refine ⟨?_, fun m hm => ?_, rfl⟩
        · dsimp only
          rw [dgetI_dsetI, if_pos rfl, K.held, L.held]
          rfl
        · dsimp only
          rw [dgetI_dsetI, if_neg (fun e => hm e.symm)]
    obtain ⟨a1, a2, a3⟩ := hA
    have hkeys : ∀ m, m ∈ (stLess w g d s i).held.map (·.1) → m = d - 2 ^ i ∨ m ∈ s.held.map (·.1) := fun m hm => by
      by_cases e : m = d - 2 ^ i
      · exact .inl e
      · right
        rw [← dgetI_some, a2 m e] at hm
        exact dgetI_some.mp hm
    have epk : stPeak w d (stLess w g d s i) i = max pd (M.held (bits (d - 2 ^ i)) + WO w i) := by
      unfold stPeak
      rw [a3, p1, a1]
      rfl
    have run : Run M (stPeak w d (stLess w g d s i) i) (bits (d - 2 ^ i)) := by
      rw [epk]
      refine .step L.stp (ar241) ?_
      rw [L.back]
      exact p3.le (ar242)
    have pos : 0 ≤ stPeak w d (stLess w g d s i) i := by rw [epk]; exact ar243 p2
    intro m hm
    unfold stSet at hm ⊢
    dsimp only at hm
    by_cases e : m = d - 2 ^ i
    · subst e
      refine ⟨L.nn, L.lt, L.cl, a1, ?_⟩
      dsimp only
      rw [dgetI_dsetI, if_pos rfl]
      refine ⟨_, rfl, ?_⟩
      rw [a3]
      generalize stPeak w d (stLess w g d s i) i = pk at *
      cases e2 : dgetI s.peaks (d - 2 ^ i) with
      | none =>
        simp only [Option.getD_none, Int.min_self]
        exact ⟨pos, run⟩
      | some v =>
        simp only [Option.getD_some]
        have hmem : d - 2 ^ i ∈ s.held.map (·.1) := by
          rw [sok.keys]; exact dgetI_some.mp (by rw [e2]; rfl)
        obtain ⟨v', q1, q2, q3⟩ := (hs _ hmem).pk
        rw [e2] at q1
        cases q1
        rcases Int.le_total v pk with hle | hle
        · rw [Int.min_eq_left hle]; exact ⟨q2, q3⟩
        · rw [Int.min_eq_right hle]; exact ⟨pos, run⟩
    · have hm' := (hkeys m hm).resolve_left e
      have K' := hs m hm'
      refine ⟨K'.nn, K'.lt, K'.cl, by dsimp only; rw [a2 m e]; exact K'.held, ?_⟩
      dsimp only
      rw [dgetI_dsetI, if_neg (fun h => e h.symm), a3]
      exact K'.pk
  · exact hs
/-! peaks only fall -/
def PMono (s s' : SSt) : Prop := ∀ k v, dgetI s.peaks k = some v → ∃ v', dgetI s'.peaks k = some v' ∧ v' ≤ v
theorem PMono.refl (s : SSt) : PMono s s := fun k v h => ⟨v, h, Int.le_refl _⟩
theorem PMono.trans {a b c : SSt} (h : PMono a b) (g : PMono b c) : PMono a c := fun k v e => by
  obtain ⟨v', e', l⟩ := h k v e
  obtain ⟨v'', e'', l'⟩ := g k v' e'
  exact ⟨v'', e'', (ar6 l l')⟩
theorem stLess_peaks {d : Int} {s : SSt} {i : Nat} : (stLess w g d s i).peaks = s.peaks := by unfold stLess; split <;> rfl
theorem step_mono {d : Int} {s : SSt} {i : Nat} : PMono s (stStep w g o d s i) := by
  unfold stStep
  split
  · intro k v h
    unfold stSet
    dsimp only
    rw [dgetI_dsetI]
    by_cases e : d - 2 ^ i = k
    · rw [if_pos e]
      refine ⟨_, rfl, ?_⟩
      rw [stLess_peaks, e, h]
      simp only [Option.getD_some]
      exact Int.min_le_left _ _
    · rw [if_neg e, stLess_peaks]
      exact ⟨v, h, Int.le_refl _⟩
  · exact .refl _
theorem foldl_mono {α : Type} {f : SSt → α → SSt} (hf : ∀ b a, PMono b (f b a)) : ∀ (l : List α) (b : SSt), PMono b (l.foldl f b)
  | [], _ => .refl _
  | a :: l, b => (hf b a).trans (foldl_mono hf l _)
theorem done_mono {d : Int} {s : SSt} : PMono s (stDone w g o s d) := foldl_mono (fun _ _ => step_mono) _ _
theorem level_mono {s : SSt} : PMono s (stLevel w g o s) := by
  have : PMono { s with lower := [] } (stLevel w g o s) := foldl_mono (fun _ _ => done_mono) _ _
  exact this
theorem run_mono {j k : Nat} (h : j ≤ k) : PMono (stRun w g o j) (stRun w g o k) := by
  induction k with
  | zero => obtain rfl : j = 0 := ar31 h
            exact .refl _
  | succ k ih =>
    rcases Nat.lt_or_ge k j with e | e
    · obtain rfl : j = k + 1 := ar32 h e
      exact .refl _
    · exact (ih e).trans level_mono
/-! levels -/
def pcS : Nat → Sn → Nat
  | 0, _ => 0
  | n + 1, S => pcS n S + if S n then 1 else 0
theorem pcS_congr {n : Nat} {S T : Sn} (h : ∀ i, i < n → S i = T i) : pcS n S = pcS n T := by
  induction n with
  | zero => rfl
  | succ n ih => unfold pcS; rw [ih fun i hi => h i (ar33 hi), h n (ar34)]
theorem pcS_del {n i : Nat} {S : Sn} (hi : i < n) (h : S i = true) : pcS n (S.del i) + 1 = pcS n S := by
  induction n with
  | zero => exact ar244 hi
  | succ n ih =>
    unfold pcS
    by_cases e : i = n
    · subst e
      rw [Sn.del_self, h, pcS_congr (S := S.del i) (T := S) fun j hj => Sn.del_ne _ (ar245 hj)]
      rfl
    · rw [Sn.del_ne _ (fun h => e h.symm)]
      have := ih (ar29 hi e)
      exact ar246 ih hi e
theorem pcS_full {n : Nat} {S : Sn} (h : ∀ i, i < n → S i = true) : pcS n S = n := by
  induction n with
  | zero => rfl
  | succ n ih => unfold pcS; rw [ih fun i hi => h i (ar33 hi), h n (ar34)]; rfl
structure JInv (N t : Nat) (s : SSt) : Prop where
  keys : ∀ m ∈ s.held.map (·.1), N ≤ pcS N (bits m) + t ∨ (pcS N (bits m) + (t + 1) = N ∧ m ∈ s.lower)
  low : ∀ m ∈ s.lower, pcS N (bits m) + (t + 1) = N
structure LInv (N t : Nat) (s : SSt) : Prop where
  keys : ∀ m ∈ s.held.map (·.1), N ≤ pcS N (bits m) + t
  at' : ∀ m ∈ s.held.map (·.1), pcS N (bits m) + t = N → m ∈ s.lower
  low : ∀ m ∈ s.lower, pcS N (bits m) + t = N
theorem step_j (T : TopM N w g o M) {t : Nat} {s : SSt} (hs : Sound N o M s) (J : JInv N t s) {d : Int} (hd : d ∈ s.held.map (·.1)) (hpc : pcS N (bits d) + t = N) {i : Nat} (hi : i < N) : JInv N t (stStep w g o d s i) := by
  unfold stStep
  split
  · rename_i ht
    have K := hs d hd
    have L := less_ok T K.nn K.lt K.cl hi ht
    have hb := ((test_iff T K.nn hi).mp ht).1
    have hpl := pcS_del (n := N) hi hb
    rw [← L.bits] at hpl
    have hpl' : pcS N (bits (d - 2 ^ i)) + (t + 1) = N := ar71 hpc hpl
    unfold stSet stLess
    split
    · exact ⟨J.keys, J.low⟩
    · rename_i e
      have e : (d - 2 ^ i) ∉ s.held.map (·.1) := fun h => e (dgetI_some.mpr h)
      refine ⟨fun m hm => ?_, fun m hm => ?_⟩
      · dsimp only at hm ⊢
        rw [dsetI_keys_not e, List.map_append] at hm
        rcases List.mem_append.mp hm with hm | hm
        · rcases J.keys m hm with h | ⟨h1, h2⟩
          · exact .inl h
          · exact .inr ⟨h1, List.mem_append_left _ h2⟩
        · simp at hm; subst hm
          exact .inr ⟨hpl', by simp⟩
      · dsimp only at hm
        rcases List.mem_append.mp hm with hm | hm
        · exact J.low m hm
        · simp at hm; subst hm; exact hpl'
  · exact J
theorem foldl_mem {α β : Type} {P : β → Prop} {f : β → α → β} : ∀ (l : List α) (b : β), (∀ b, ∀ a ∈ l, P b → P (f b a)) → P b → P (l.foldl f b)
  | [], _, _, h => h
  | a :: l, b, hf, h => foldl_mem l _ (fun b x hx => hf b x (List.mem_cons_of_mem _ hx)) (hf b a List.mem_cons_self h)
structure AllI (N : Nat) (o : List Int) (M : Mac) (t : Nat) (s : SSt) : Prop where
  sd : Sound N o M s
  ok : SOk s
  j : JInv N t s
theorem step_all (T : TopM N w g o M) {t : Nat} {s : SSt} (A : AllI N o M t s) {d : Int} (hd : d ∈ s.held.map (·.1)) (hpc : pcS N (bits d) + t = N) {i : Nat} (hi : i < N) : AllI N o M t (stStep w g o d s i) :=
  ⟨step_sound T A.sd A.ok hd hi, stStep_ok A.ok, step_j T A.sd A.j hd hpc hi⟩
theorem steps_all (T : TopM N w g o M) {t : Nat} {d : Int} (hpc : pcS N (bits d) + t = N) (l : List Nat) (hl : ∀ i ∈ l, i < N) {s : SSt} (A : AllI N o M t s) (hd : d ∈ s.held.map (·.1)) : AllI N o M t (l.foldl (stStep w g o d) s) ∧ d ∈ (l.foldl (stStep w g o d) s).held.map (·.1) :=
  foldl_mem (P := fun s => AllI N o M t s ∧ d ∈ s.held.map (·.1)) l s (fun b i hi h => ⟨step_all T h.1 h.2 hpc (hl i hi), stStep_grow.sub d h.2⟩) ⟨A, hd⟩
theorem done_all (T : TopM N w g o M) {t : Nat} {d : Int} (hpc : pcS N (bits d) + t = N) {s : SSt} (A : AllI N o M t s) (hd : d ∈ s.held.map (·.1)) : AllI N o M t (stDone w g o s d) := by
  unfold stDone
  exact (steps_all T hpc _ (fun i hi => by rw [List.mem_range, T.wl] at hi; exact hi) A hd).1
theorem dones_all (T : TopM N w g o M) {t : Nat} (l : List Int) (hl : ∀ d ∈ l, pcS N (bits d) + t = N) {s : SSt} (A : AllI N o M t s) (hd : ∀ d ∈ l, d ∈ s.held.map (·.1)) : AllI N o M t (l.foldl (stDone w g o) s) ∧ ∀ d ∈ l, d ∈ (l.foldl (stDone w g o) s).held.map (·.1) :=
  foldl_mem (P := fun s => AllI N o M t s ∧ ∀ d ∈ l, d ∈ s.held.map (·.1)) l s (fun b d hd' h => ⟨done_all T (hl d hd') h.1 (h.2 d hd'), fun e he => stDone_grow.sub e (h.2 e he)⟩) ⟨A, hd⟩
structure RunI (N : Nat) (o : List Int) (M : Mac) (t : Nat) (s : SSt) : Prop where
  sd : Sound N o M s
  ok : SOk s
  l : LInv N t s
theorem RunI.start {t : Nat} {s : SSt} (R : RunI N o M t s) : AllI N o M t { s with lower := [] } :=
  ⟨fun m hm => by have K := R.sd m hm; exact ⟨K.nn, K.lt, K.cl, K.held, K.pk⟩, ⟨R.ok.keys, R.ok.nd, by simp, by simp⟩, ⟨fun m hm => .inl (R.l.keys m hm), by simp⟩⟩
theorem level_all (T : TopM N w g o M) {t : Nat} {s : SSt} (R : RunI N o M t s) : RunI N o M (t + 1) (stLevel w g o s) := by
  unfold stLevel
  obtain ⟨A, _⟩ := dones_all T s.lower R.l.low R.start fun d hd => R.ok.low d hd
  refine ⟨A.sd, A.ok, fun m hm => ?_, fun m hm e => ?_, fun m hm => A.j.low m hm⟩
  · rcases A.j.keys m hm with h | ⟨h, _⟩ <;> (first | exact ar247 h | exact ar248 h)
  · rcases A.j.keys m hm with h | ⟨_, h⟩
    · lia
    · exact h
theorem init_all (T : TopM N w g o M) : RunI N o M 0 (stInit w) := by
  have hall : ∀ i, i < N → bits (2 ^ N - 1) i = true := fun i hi => by rw [bits_full]; simpa using hi
  have hroot : bits (2 ^ N - 1) (N - 1) = true := hall _ (by have := T.n0; exact ar249 this)
  have hlast : w.getLastD 0 = WO w (N - 1) := by
    have h1 := T.wl
    have h2 := T.n0
    unfold WO
    rw [List.getLastD_eq_getLast?, List.getLast?_eq_getElem?, List.getD_eq_getElem?_getD, h1]
  have hpos : (0 : Int) ≤ 2 ^ N - 1 := by have := toNat_pow N; have := Nat.two_pow_pos N; exact ar250 (by assumption) this
  have K : Key N o M (stInit w) (2 ^ N - 1) := by
    refine ⟨hpos, ar51, fun i hi _ _ => hall i ((T.ids i).mp hi), ?_, 0, ?_, Int.le_refl _, .fin ((T.link.finr _).mpr hroot)⟩
    · unfold stInit
      rw [T.wl, hlast, T.link.heldr _ hroot]
      simp [dgetI]
    · unfold stInit; rw [T.wl]; simp [dgetI]
  refine ⟨fun m hm => ?_, stInit_ok, fun m hm => ?_, fun m hm _ => ?_, fun m hm => ?_⟩
  · simp [stInit, T.wl] at hm; subst hm; exact K
  · simp [stInit, T.wl] at hm; subst hm
    rw [pcS_full hall]; exact ar251
  · simp [stInit, T.wl] at hm; subst hm
    simp [stInit, T.wl]
  · simp [stInit, T.wl] at hm; subst hm
    rw [pcS_full hall]; rfl
theorem run_all (T : TopM N w g o M) (t : Nat) : RunI N o M t (stRun w g o t) := by
  induction t with
  | zero => exact init_all T
  | succ t ih => exact level_all T ih
end
end Mine
end
section
open PySem PySem.W PyProof.Rows PySem.SeqAt
set_option Elab.async false
set_option linter.unusedVariables false
set_option linter.unnecessarySimpa false
set_option linter.unusedSimpArgs false
namespace Mine
section
variable {N : Nat} {w g o : List Int} {M : Mac}
/-- within x at the turn t -/
def In (w g o : List Int) (x : Int) (t : Nat) (m : Int) : Prop := m ∈ (stRun w g o t).lower ∧ ∃ v, dgetI (stRun w g o t).peaks m = some v ∧ v ≤ x
theorem in_step (T : TopM N w g o M) {x : Int} {t : Nat} {m : Int} (h : In w g o x t m) {i : Nat} (hi : i < N) (ht : stTest o m i = true) (hc : M.held (bits (m - 2 ^ i)) + WO w i ≤ x) : In w g o x (t + 1) (m - 2 ^ i) := by
  obtain ⟨hl, v, hv, hvx⟩ := h
  have R := run_all T t
  have R' := run_all T (t + 1)
  have key : (∃ v', dgetI (stRun w g o (t + 1)).peaks (m - 2 ^ i) = some v' ∧ v' ≤ x) := by
    show ∃ v', dgetI (stLevel w g o (stRun w g o t)).peaks (m - 2 ^ i) = some v' ∧ v' ≤ x
    generalize stRun w g o t = s at *
    obtain ⟨A, B, e⟩ := List.append_of_mem hl
    unfold stLevel
    have hlow : ∀ d ∈ s.lower, pcS N (bits d) + t = N := R.l.low
    rw [e, List.foldl_append, List.foldl_cons]
    have hA : ∀ d ∈ A, pcS N (bits d) + t = N := fun d hd => hlow d (by rw [e]; exact List.mem_append_left _ hd)
    obtain ⟨I1, _⟩ := dones_all T A hA R.start fun d hd => R.ok.low d (by rw [e]; exact List.mem_append_left _ hd)
    have g1 : SGrow { s with lower := [] } (A.foldl (stDone w g o) { s with lower := [] }) := foldl_grow (fun _ _ => stDone_grow) _ _
    have m1 : PMono { s with lower := [] } (A.foldl (stDone w g o) { s with lower := [] }) := foldl_mono (fun _ _ => done_mono) _ _
    have k1 := g1.sub m (R.ok.low m hl)
    obtain ⟨v1, hv1, l1⟩ := m1 m v hv
    generalize A.foldl (stDone w g o) { s with lower := [] } = s1 at *
    suffices h : ∃ v', dgetI (stDone w g o s1 m).peaks (m - 2 ^ i) = some v' ∧ v' ≤ x by
      obtain ⟨v', h1, h2⟩ := h
      obtain ⟨v'', h3, h4⟩ := (foldl_mono (fun _ _ => done_mono) B (stDone w g o s1 m) : PMono _ (B.foldl (stDone w g o) (stDone w g o s1 m))) _ _ h1
      exact ⟨v'', h3, (ar6 h2 h4)⟩
    have hir : i ∈ List.range w.length := by rw [List.mem_range, T.wl]; exact hi
    unfold stDone
    obtain ⟨C, D, e2⟩ := List.append_of_mem hir
    have hC : ∀ j ∈ C, j < N := fun j hj => by
      have : j ∈ List.range w.length := by rw [e2]; exact List.mem_append_left _ hj
      rw [List.mem_range, T.wl] at this; exact this
    rw [e2, List.foldl_append, List.foldl_cons]
    obtain ⟨I2, k2⟩ := steps_all T (hlow m hl) C hC I1 k1
    have m2 : PMono s1 (C.foldl (stStep w g o m) s1) := foldl_mono (fun _ _ => step_mono) _ _
    obtain ⟨v2, hv2, l2⟩ := m2 m v1 hv1
    generalize C.foldl (stStep w g o m) s1 = s2 at *
    suffices h : ∃ v', dgetI (stStep w g o m s2 i).peaks (m - 2 ^ i) = some v' ∧ v' ≤ x by
      obtain ⟨v', h1, h2⟩ := h
      obtain ⟨v'', h3, h4⟩ := (foldl_mono (fun _ _ => step_mono) D (stStep w g o m s2 i) : PMono _ (D.foldl (stStep w g o m) (stStep w g o m s2 i))) _ _ h1
      exact ⟨v'', h3, (ar6 h2 h4)⟩
    have I3 := step_all T I2 k2 (hlow m hl) hi
    have e3 : stStep w g o m s2 i = stSet w m (stLess w g m s2 i) i := by unfold stStep; rw [if_pos ht]
    have hless : m - 2 ^ i ∈ (stStep w g o m s2 i).held.map (·.1) := by rw [e3]; exact stLess_mem
    have hheld := (I3.sd _ hless).held
    rw [e3] at hheld ⊢
    unfold stSet at hheld ⊢
    dsimp only at hheld ⊢
    rw [dgetI_dsetI, if_pos rfl]
    refine ⟨_, rfl, ?_⟩
    refine Int.le_trans (Int.min_le_right _ _) ?_
    unfold stPeak
    rw [stLess_peaks, hv2, hheld]
    simp only [Option.getD_some]
    have : w.getD i 0 = WO w i := rfl
    exact ar509 hc hvx l1 l2 this
  refine ⟨R'.l.at' _ ?_ ?_, key⟩
  · obtain ⟨v', h1, _⟩ := key
    rw [R'.ok.keys]
    exact dgetI_some.mp (by rw [h1]; rfl)
  · have hpm := R.l.low m hl
    have K := R.sd m (R.ok.low m hl)
    have hb := ((test_iff T K.nn hi).mp ht).1
    have L := less_ok T K.nn K.lt K.cl hi ht
    have := pcS_del (n := N) hi hb
    rw [← L.bits] at this
    exact ar71 hpm this
/-- each run is met by a key -/
theorem complete (T : TopM N w g o M) {x : Int} (hx : 0 ≤ x) {S : Sn} (h : Run M x S) : Cl M (N - 1) (parO o) S → ∃ t m, In w g o x t m ∧ Agree M (bits m) S := by
  induction h with
  | @fin S a =>
    intro hc
    have h1 := (T.link.finr S).mp a
    have h2 := T.link.clroot S hc h1
    refine ⟨0, 2 ^ N - 1, ⟨?_, 0, ?_, hx⟩, fun i hi => ?_⟩
    · show _ ∈ (stInit w).lower
      simp [stInit, T.wl]
    · show dgetI (stInit w).peaks _ = _
      simp [stInit, T.wl, dgetI]
    · rw [h2 i hi, bits_full]; simpa using (T.ids i).mp hi
  | @step S i u a b _ ih =>
    intro hc
    obtain ⟨u1, u2, u3⟩ := T.link.up S i u hc a
    obtain ⟨t, m, hin, hag⟩ := ih (T.link.upcl S i u hc a)
    have hid := T.ok.mem a
    have hi := (T.ids i).mp hid
    have R := run_all T t
    have K := R.sd m (R.ok.low m hin.1)
    have hbi : bits m i = true := by rw [hag i hid, Sn.add_self]
    have ht : stTest o m i = true := (test_iff T K.nn hi).mpr ⟨hbi, fun hr => by
      rw [hag _ (T.link.parm i hid hr), Sn.add_ne _ (T.link.parne i hid hr)]
      exact u3 hr⟩
    have L := less_ok T K.nn K.lt K.cl hi ht
    have hag' : Agree M (bits (m - 2 ^ i)) S := fun j hj => by
      rw [L.bits]
      by_cases e : j = i
      · subst e; rw [Sn.del_self, u1]
      · rw [Sn.del_ne _ e, hag j hj, Sn.add_ne _ e]
    refine ⟨t + 1, m - 2 ^ i, in_step T hin hi ht ?_, hag'⟩
    rw [T.ok.held hag', ← u2]
    exact b
theorem in_le (T : TopM N w g o M) {x : Int} {t : Nat} {m : Int} (h : In w g o x t m) : t ≤ N := by
  have := (run_all T t).l.low m h.1; exact ar510 this
theorem run_end (T : TopM N w g o M) : (stRun w g o (N + 1)).lower = [] := by
  cases e : (stRun w g o (N + 1)).lower with
  | nil => rfl
  | cons a r =>
    have := (run_all T (N + 1)).l.low a (by rw [e]; exact List.mem_cons_self)
    omega
/-- the end's pair of a key -/
theorem in_pair (T : TopM N w g o M) {x : Int} {t : Nat} {m : Int} (h : In w g o x t m) : m ∈ (stRun w g o (N + 1)).held.map (·.1) ∧ ∃ p ∈ stPairs (stRun w g o (N + 1)), p.1 = M.held (bits m) ∧ p.2 ≤ x := by
  have hle : t ≤ N + 1 := by have := in_le T h; exact ar17 this
  have R := run_all T t
  have R' := run_all T (N + 1)
  have hk := (stRun_grow (w := w) (g := g) (o := o) hle).sub m (R.ok.low m h.1)
  refine ⟨hk, ?_⟩
  obtain ⟨v, hv, hvx⟩ := h.2
  obtain ⟨v', hv', l⟩ := run_mono hle m v hv
  obtain ⟨q, hq, e⟩ := List.mem_map.mp hk
  obtain ⟨j, hj, rfl⟩ := List.getElem_of_mem hq
  refine ⟨_, List.mem_map.mpr ⟨_, hq, rfl⟩, ?_, ?_⟩
  · have h1 := (R'.sd m hk).held
    have h2 : ∀ {l : List (Int × Int)}, (l.map (·.1)).Nodup → ∀ q ∈ l, dgetI l q.1 = some q.2 := by
      intro l hn q hq
      induction l with
      | nil => simp at hq
      | cons a r ih =>
        simp only [List.map_cons, List.nodup_cons] at hn
        obtain ⟨a1, a2⟩ := a
        unfold dgetI
        rcases List.mem_cons.mp hq with rfl | hq
        · simp
        · rw [if_neg (fun e : a1 = q.1 => hn.1 (by rw [e]; exact List.mem_map.mpr ⟨q, hq, rfl⟩))]
          exact ih hn.2 hq
    have h3 := h2 R'.ok.nd _ hq
    rw [e, h1] at h3
    exact (Option.some.inj h3).symm
  · dsimp only
    rw [e, hv']
    simp only [Option.getD_some]
    exact ar6 hvx l
theorem pair_key (T : TopM N w g o M) {p : Int × Int} (h : p ∈ stPairs (stRun w g o (N + 1))) : ∃ m, Cl M (N - 1) (parO o) (bits m) ∧ p.1 = M.held (bits m) ∧ 0 ≤ p.2 ∧ Run M p.2 (bits m) := by
  have R' := run_all T (N + 1)
  obtain ⟨q, hq, rfl⟩ := List.mem_map.mp h
  have hk : q.1 ∈ (stRun w g o (N + 1)).held.map (·.1) := List.mem_map.mpr ⟨q, hq, rfl⟩
  have K := R'.sd q.1 hk
  obtain ⟨j, hj, e⟩ := List.getElem_of_mem hq
  have hg := K.held
  obtain ⟨pk, p1, p2, p3⟩ := K.pk
  refine ⟨q.1, K.cl, ?_, ?_, ?_⟩
  · have h2 : ∀ {l : List (Int × Int)}, (l.map (·.1)).Nodup → ∀ q ∈ l, dgetI l q.1 = some q.2 := by
      intro l hn q hq
      induction l with
      | nil => simp at hq
      | cons a r ih =>
        simp only [List.map_cons, List.nodup_cons] at hn
        obtain ⟨a1, a2⟩ := a
        unfold dgetI
        rcases List.mem_cons.mp hq with rfl | hq
        · simp
        · rw [if_neg (fun e : a1 = q.1 => hn.1 (by rw [e]; exact List.mem_map.mpr ⟨q, hq, rfl⟩))]
          exact ih hn.2 hq
    have h3 := h2 R'.ok.nd _ hq
    rw [hg] at h3
    exact (Option.some.inj h3).symm
  · dsimp only; rw [p1]; exact p2
  · dsimp only; rw [p1]; exact p3
end
end Mine
end
section
open PySem PySem.W PyProof.Rows PySem.SeqAt
set_option Elab.async false
set_option linter.unusedVariables false
set_option linter.unnecessarySimpa false
set_option linter.unusedSimpArgs false
namespace Mine
def stairOf (v : Int) (p : List (Int × Int)) : List (Int × Int) := (v :: p.map (·.2)).zip (p.map (·.1) ++ [0])
theorem stairOf_cons (v : Int) (e : Int × Int) (q : List (Int × Int)) : stairOf v (e :: q) = (v, e.1) :: stairOf e.2 q := by rfl
theorem stairOf_nil (v : Int) : stairOf v [] = [(v, 0)] := by rfl
theorem stair_ok : ∀ (p : List (Int × Int)) (v : Int), Canon p → (∀ e ∈ p, v < e.2) → Stair (stairOf v p) ∧ (∀ t ∈ stairOf v p, v ≤ t.1 ∧ 0 ≤ t.2) ∧ ∀ h, (∀ e ∈ p, e.1 < h) → 0 < h → ∀ t ∈ stairOf v p, t.2 < h
  | [], v, _, _ => by
    rw [stairOf_nil]
    refine ⟨by simp [Stair], fun t ht => ?_, fun h _ h0 t ht => ?_⟩
    · simp at ht; subst ht; simp
    · simp at ht; subst ht; exact h0
  | e :: q, v, hc, hv => by
    have hst := List.pairwise_cons.mp hc.st
    have hcq : Canon q := ⟨hst.2, fun a ha => hc.pos a (List.mem_cons_of_mem _ ha)⟩
    have hpe := hc.pos e List.mem_cons_self
    have hve := hv e List.mem_cons_self
    obtain ⟨s1, s2, s3⟩ := stair_ok q e.2 hcq fun a ha => (hst.1 a ha).2
    rw [stairOf_cons]
    refine ⟨List.pairwise_cons.mpr ⟨fun t ht => ⟨?_, ?_⟩, s1⟩, fun t ht => ?_, fun h hh h0 t ht => ?_⟩
    · have := (s2 t ht).1; dsimp only; exact ar67 hve this
    · exact s3 e.1 (fun a ha => (hst.1 a ha).1) hpe.1 t ht
    · rcases List.mem_cons.mp ht with rfl | ht
      · exact ⟨Int.le_refl _, Int.le_of_lt hpe.1⟩
      · have := s2 t ht; exact ar308 hve this
    · rcases List.mem_cons.mp ht with rfl | ht
      · exact hh e List.mem_cons_self
      · exact s3 h (fun a ha => hh a (List.mem_cons_of_mem _ ha)) h0 t ht
theorem dv_stair {H x : Int} (hx : 0 ≤ x) : ∀ (p : List (Int × Int)) (v : Int), Dv v p H x → ∃ t ∈ stairOf v p, Below t (H, x)
  | [], v, h => ⟨(v, 0), by rw [stairOf_nil]; exact .head _, h, hx⟩
  | e :: q, v, h => by
    rw [stairOf_cons]
    rcases h with ⟨h1, h2⟩ | h
    · exact ⟨(v, e.1), List.mem_cons_self, h1, h2 e List.mem_cons_self⟩
    · obtain ⟨t, ht, hb⟩ := dv_stair hx q e.2 h
      exact ⟨t, List.mem_cons_of_mem _ ht, hb⟩
theorem ach_run {M : Mac} {x : Int} : ∀ (q : List (Int × Int)) (S : Sn), Ach M S q → (∀ p ∈ q, p.1 ≤ x) → Run M x S
  | [], S, h, _ => .fin h
  | p :: q, S, ⟨S', m, _, h⟩, hx => (m.le (hx p List.mem_cons_self)).run (ach_run q S' h fun e he => hx e (List.mem_cons_of_mem _ he))
section
variable {N : Nat} {w g o : List Int} {M : Mac}
theorem move_cl (T : TopM N w g o M) {x : Int} {S S' : Sn} (h : Move M x S S') : Cl M (N - 1) (parO o) S → Cl M (N - 1) (parO o) S' := by
  induction h with
  | refl => exact id
  | step a _ _ ih => exact fun hc => ih (T.link.upcl _ _ _ hc a)
theorem ach_stair (T : TopM N w g o M) : ∀ (p : List (Int × Int)) (v : Int) (S : Sn), Canon p → Ach M S p → Cl M (N - 1) (parO o) S → M.held S ≤ v → ∀ t ∈ stairOf v p, ∃ S', Cl M (N - 1) (parO o) S' ∧ M.held S' ≤ t.1 ∧ Run M t.2 S'
  | [], v, S, _, h, hc, hv, t, ht => by
    rw [stairOf_nil] at ht
    simp at ht; subst ht
    exact ⟨S, hc, hv, .fin h⟩
  | e :: q, v, S, hp, ⟨S1, m, hh, h⟩, hc, hv, t, ht => by
    have hst := List.pairwise_cons.mp hp.st
    rw [stairOf_cons] at ht
    rcases List.mem_cons.mp ht with rfl | ht
    · exact ⟨S, hc, hv, m.run (ach_run q S1 h fun a ha => Int.le_of_lt (hst.1 a ha).1)⟩
    · exact ach_stair T q e.2 S1 ⟨hst.2, fun a ha => hp.pos a (List.mem_cons_of_mem _ ha)⟩ h (move_cl T m hc) hh t ht
theorem cl_empty (T : TopM N w g o M) : Cl M (N - 1) (parO o) (fun _ => false) := fun i _ _ h => by cases h
/-- the kept states are the path's staircase -/
theorem kept_path (T : TopM N w g o M) {p : List (Int × Int)} (L : Liu M p) {l : List (Int × Int)} (hperm : l.Perm (stPairs (stRun w g o (N + 1)))) (hl : l.Pairwise lexle) : stairOf 0 p = keptOf l := by
  obtain ⟨s1, s2, _⟩ := stair_ok p 0 L.c fun e he => (L.c.pos e he).2
  refine (kept_eq s1 hl (fun t ht => ?_) fun q hq => ?_).symm
  · have he : M.held (fun _ => false) ≤ 0 := by rw [T.ok.empty fun _ _ => rfl]; exact Int.le_refl _
    obtain ⟨S', c, h1, h2⟩ := ach_stair T p 0 (fun _ => false) L.c (L.ach _ fun _ _ => rfl) (cl_empty T) he t ht
    obtain ⟨n, m, hin, hag⟩ := complete T (s2 t ht).2 h2 c
    obtain ⟨_, q, hq, e1, e2⟩ := in_pair T hin
    refine ⟨q, hperm.mem_iff.mpr hq, ?_, e2⟩
    rw [e1, T.ok.held hag]; exact h1
  · obtain ⟨m, _, e1, e2, hr⟩ := pair_key T (hperm.mem_iff.mp hq)
    have := L.dom _ _ hr
    rw [← e1] at this
    exact dv_stair e2 p 0 this
theorem above (l : List (Int × Int)) : ∃ x : Int, 0 ≤ x ∧ ∀ p ∈ l, p.1 ≤ x := by
  induction l with
  | nil => exact ⟨0, Int.le_refl _, by decide +kernel⟩
  | cons a r ih =>
    obtain ⟨x, h0, h⟩ := ih
    refine ⟨max x a.1, (ar309 h0), fun p hp => ?_⟩
    rcases List.mem_cons.mp hp with rfl | hp
    · exact ar310
    · have := h p hp; exact ar311 this
theorem two_states (T : TopM N w g o M) {p : List (Int × Int)} (L : Liu M p) : 2 ≤ (stRun w g o (N + 1)).held.length := by
  obtain ⟨x, h0, hx⟩ := above p
  obtain ⟨t, m, hin, hag⟩ := complete T h0 (ach_run p _ (L.ach (fun _ => false) fun _ _ => rfl) hx) (cl_empty T)
  have hm := (in_pair T hin).1
  have hf : (2 ^ N - 1 : Int) ∈ (stRun w g o (N + 1)).held.map (·.1) := (stRun_grow (w := w) (g := g) (o := o) (Nat.zero_le _)).sub _ (by show _ ∈ (stInit w).held.map _; simp [stInit, T.wl])
  have hne : m ≠ 2 ^ N - 1 := by
    rintro rfl
    have := hag 0 ((T.ids 0).mpr T.n0)
    rw [bits_full] at this
    simp [T.n0] at this
  have hn : [m, 2 ^ N - 1].Nodup := by simp [hne]
  have := hn.length_le_of_subset (l₂ := (stRun w g o (N + 1)).held.map (·.1)) (by
    intro a ha
    simp at ha
    rcases ha with rfl | rfl
    · exact hm
    · exact hf)
  simpa using this
theorem few_states (T : TopM N w g o M) {n : Nat} (F : Few M (N - 1) (parO o) n) : (stRun w g o (N + 1)).held.length ≤ n := by
  obtain ⟨C, c1, c2⟩ := F
  have R := run_all T (N + 1)
  have ex : ∀ m : Int, ∃ S : Sn, m ∈ (stRun w g o (N + 1)).held.map (·.1) → S ∈ C ∧ Agree M S (bits m) := fun m => by
    by_cases h : m ∈ (stRun w g o (N + 1)).held.map (·.1)
    · obtain ⟨S, hS, ha⟩ := c2 (bits m) (R.sd m h).cl
      exact ⟨S, fun _ => ⟨hS, ha⟩⟩
    · exact ⟨fun _ => false, fun h' => absurd h' h⟩
  obtain ⟨f, hf⟩ := Classical.axiomOfChoice ex
  have hn : (((stRun w g o (N + 1)).held.map (·.1)).map f).Nodup := by
    refine List.pairwise_map.mpr (List.Pairwise.imp_of_mem (fun {a b} ha hb hne he => hne ?_) R.ok.nd)
    refine bits_inj (R.sd a ha).nn (R.sd b hb).nn fun i => ?_
    rcases Nat.lt_or_ge i N with hi | hi
    · rw [← (hf a ha).2 i ((T.ids i).mpr hi), ← (hf b hb).2 i ((T.ids i).mpr hi), he]
    · rw [bits_lt (R.sd a ha).lt hi, bits_lt (R.sd b hb).lt hi]
  have := hn.length_le_of_subset (l₂ := C) (by
    intro S hS
    obtain ⟨m, hm, rfl⟩ := List.mem_map.mp hS
    exact (hf m hm).1)
  simp only [List.length_map] at this
  exact ar81 c1 this
end
end Mine
end
section
open PySem PySem.W PyProof.Rows PySem.SeqAt
set_option Elab.async false
set_option linter.unusedVariables false
set_option linter.unnecessarySimpa false
set_option linter.unusedSimpArgs false
namespace Mine
/-- the row's reading from the left: n open places before, k after -/
def Pre : Nat → List Int → Nat → Prop
  | n, [], k => n = k
  | n, s :: l, k => 0 < n ∧ Pre (n - 1 + arity s) l k
theorem Pre.snoc {s : Int} : ∀ {l : List Int} {n k : Nat}, Pre n l k → 0 < k → Pre n (l ++ [s]) (k - 1 + arity s)
  | [], n, k, h, hk => by
    have h : n = k := h
    subst h
    exact ⟨hk, rfl⟩
  | a :: l, n, k, ⟨h1, h2⟩, hk => ⟨h1, h2.snoc hk⟩
def isLet (s : Int) : Bool := decide (arity s = 0)
def lets (l : List Int) : Nat := (l.filter isLet).length
def lsum (b : BS) : Nat := (b.t.pile.map fun x => b.lv.getD x.toNat 0).sum
theorem lsum_step {b : BS} (h : BOk b) {s : Int} (ha : arity s ≤ b.t.pile.length) : lsum (bStep b s) = lsum b + (if isLet s then 1 else 0) ∧ lvOf b s ≤ lsum b + (if isLet s then 1 else 0) := by
  have hsplit : b.t.pile = b.t.pile.take (b.t.pile.length - arity s) ++ (partsOf b.t s).reverse := by
    unfold partsOf
    rw [List.take_reverse, List.reverse_reverse, List.take_append_drop]
  have hs : lsum b = ((b.t.pile.take (b.t.pile.length - arity s)).map fun x => b.lv.getD x.toNat 0).sum + ((partsOf b.t s).map fun x => b.lv.getD x.toNat 0).sum := by
    unfold lsum
    conv => lhs; rw [hsplit]
    rw [List.map_append, List.sum_append, List.map_reverse, List.sum_reverse]
  have e1 : lsum (bStep b s) = ((b.t.pile.take (b.t.pile.length - arity s)).map fun x => b.lv.getD x.toNat 0).sum + lvOf b s := by
    have hp : (bStep b s).t.pile = b.t.pile.take (b.t.pile.length - arity s) ++ [((b.t.p.length : Nat) : Int)] := rfl
    unfold lsum
    rw [hp, List.map_append, List.sum_append]
    congr 1
    · congr 1
      apply List.map_congr_left
      intro x hx
      show (b.lv ++ [lvOf b s]).getD x.toNat 0 = _
      exact getD_app _ _ (by rw [h.ll]; exact (h.tok.q x (List.mem_of_mem_take hx)).2)
    · simp only [List.map_cons, List.map_nil, List.sum_cons, List.sum_nil, Int.toNat_natCast]
      show (b.lv ++ [lvOf b s]).getD b.t.p.length 0 + 0 = _
      rw [← h.ll, getD_end]; rfl
  rw [e1, hs]
  unfold lvOf isLet
  by_cases e : arity s = 0
  · have hps : partsOf b.t s = [] := by unfold partsOf; rw [e]; rfl
    rw [if_pos e, hps]
    simp [e]
  · rw [if_neg e]
    simp [e]
structure Built (l : List Int) (n : Nat) : Prop where
  ok : BOk (bRun l.reverse)
  pl : (treeRun l.reverse).pile.length = n
  ls : lsum (bRun l.reverse) = lets l
  rd : Reads2 l.reverse
theorem built (l : List Int) : ∀ n, Pre n l 0 → (∀ s ∈ l, 0 < weightOf s ∧ s ≠ 0) → lets l ≤ 5 → Built l n := by
  induction l with
  | nil =>
    intro n h _ _
    have h : n = 0 := h
    subst h
    refine ⟨⟨⟨rfl, rfl, rfl, by decide +kernel, by simp [bRun, TS.init], by constructor, by decide +kernel, by exact Nat.zero_le _⟩, rfl, rfl, by simp [bRun, TS.init], by simp [bRun, TS.init], fun i hi => ?_⟩, rfl, rfl, fun j s e => by simp at e⟩
    simp [bRun, TS.init] at hi
  | cons s l ih =>
    intro n ⟨h1, h2⟩ hw h5
    have hl : lets l ≤ lets (s :: l) ∧ lets (s :: l) = lets l + (if isLet s then 1 else 0) := by
      unfold lets
      by_cases e : isLet s = true
      · rw [List.filter_cons_of_pos e, if_pos e]; simp
      · rw [List.filter_cons_of_neg e, if_neg e]; simp
    obtain ⟨b1, b2, b3, b4⟩ := ih _ h2 (fun x hx => hw x (List.mem_cons_of_mem _ hx)) (ar434 h5 hl)
    have er : (s :: l).reverse = l.reverse ++ [s] := by simp
    have eb : bRun (s :: l).reverse = bStep (bRun l.reverse) s := by rw [er]; unfold bRun; rw [List.foldl_append]; rfl
    have et : treeRun (s :: l).reverse = treeStep (treeRun l.reverse) s := by rw [er]; unfold treeRun; rw [List.foldl_append]; rfl
    have ha : arity s ≤ (bRun l.reverse).t.pile.length := by rw [bRun_t, b2]; exact ar435
    obtain ⟨l1, l2⟩ := lsum_step b1 ha
    refine ⟨?_, ?_, ?_, ?_⟩
    · rw [eb]
      exact bStep_ok b1 ha (hw s List.mem_cons_self).1 (ar436 h5 hl b3 l2)
    · rw [et]
      have : (treeStep (treeRun l.reverse) s).pile.length = (treeRun l.reverse).pile.length - arity s + 1 := by
        rw [bRun_t] at ha
        simp [treeStep]
      exact ar437 h1 b2 this
    · rw [eb]; exact ar438 hl b3 l1
    · rw [er]
      intro j x e
      rcases Nat.lt_or_ge j l.reverse.length with q | q
      · rw [List.getElem?_append_left q] at e
        have := b4 j x e
        rw [List.take_append_of_le_length (ar439 q)]
        exact this
      · have hj : j = l.reverse.length := by
          have := (List.getElem?_eq_some_iff.mp e).1
          simp at this q ⊢; exact ar440 this q
        subst hj
        simp at e
        subst e
        have e3 : (l.reverse ++ [s]).take l.reverse.length = l.reverse := by simp
        rw [e3, ← bRun_t]
        exact ⟨(hw s List.mem_cons_self).2, ha⟩
/-- the law of a row that is one tree -/
theorem row_law {l : List Int} (h : Pre 1 l 0) (hw : ∀ s ∈ l, 0 < weightOf s ∧ s ≠ 0) (h5 : lets l ≤ 5) (hlen : l.length ≤ 60) :
    Reads2 l.reverse ∧ 0 < l.length ∧ ∃ w g o path K, (treeRun l.reverse).w = w ∧ (treeRun l.reverse).g = g ∧ (treeRun l.reverse).o = o ∧ (treeRun l.reverse).p.getLastD [] = path ∧
    g.length = w.length ∧ o.length = w.length ∧ 0 < w.length ∧ w.length ≤ 60 ∧ path.length ≤ 1000 ∧ (stRun w g o K).lower = [] ∧ 2 ≤ (stRun w g o K).held.length ∧ (stRun w g o K).held.length < 64 ∧
    ∀ l', l'.Perm (stPairs (stRun w g o K)) → l'.Pairwise lexle → (0 :: path.map (·.2)).zip (path.map (·.1) ++ [0]) = keptOf l' := by
  cases l with
  | nil => exact absurd (show (1 : Nat) = 0 from h) (by decide)
  | cons s l =>
  have B := built (s :: l) 1 h hw h5
  have hN : (treeRun (s :: l).reverse).p.length = (s :: l).length := by
    have := (tree_ok B.rd (s :: l).reverse.length (Nat.le_refl _)).2
    rw [List.take_length] at this
    simpa using this
  have tok := (tree_ok B.rd (s :: l).reverse.length (Nat.le_refl _)).1
  rw [List.take_length] at tok
  have hpile : (treeRun (s :: l).reverse).pile = [(((s :: l).length - 1 : Nat) : Int)] := by
    have et : treeRun (s :: l).reverse = treeStep (treeRun l.reverse) s := by
      have er : (s :: l).reverse = l.reverse ++ [s] := by simp
      rw [er]; unfold treeRun; rw [List.foldl_append]; rfl
    have h1 := B.pl
    have e2 : (treeRun (s :: l).reverse).pile = (treeRun l.reverse).pile.take ((treeRun l.reverse).pile.length - arity s) ++ [((treeRun l.reverse).p.length : Int)] := by rw [et]; rfl
    have e3 : (treeRun (s :: l).reverse).p.length = (treeRun l.reverse).p.length + 1 := by rw [et]; simp [treeStep]
    rw [e2] at h1 ⊢
    have e4 : (treeRun l.reverse).pile.take ((treeRun l.reverse).pile.length - arity s) = [] := by
      rw [List.length_append] at h1
      exact List.eq_nil_of_length_eq_zero (by simpa using h1)
    rw [e4]
    have : (treeRun l.reverse).p.length = (s :: l).length - 1 := ar441 hN e3
    rw [this]; rfl
  have BO := B.ok
  have hrd := B.rd
  have hls := B.ls
  generalize hb : bRun (s :: l).reverse = b at *
  have ht : b.t = treeRun (s :: l).reverse := by rw [← hb, bRun_t]
  rw [← ht] at hN hpile tok ⊢
  generalize hNN : (s :: l).length = N at *
  have hN0 : 0 < N := by rw [← hNN]; simp
  have hx : (((N - 1 : Nat) : Int)) ∈ b.t.pile := by rw [hpile]; exact List.mem_singleton.mpr rfl
  have D := BO.nd _ hx
  have eT : (((N - 1 : Nat) : Int)).toNat = N - 1 := by simp
  have D1 := D.link
  have D2 := D.oroot
  have D3 := D.opar
  have D4 := D.few
  have D5 := D.liu
  rw [eT] at D1 D2 D3 D4 D5
  have hids : ∀ i, (macOf b.ms ((N - 1 : Nat) : Int)).ids i ↔ i < N := fun i => by
    refine ⟨fun hi => by rw [← hN]; exact D.bd i hi, fun hi => ?_⟩
    obtain ⟨y, hy, hi'⟩ := BO.cov i (by rw [hN]; exact hi)
    rw [hpile] at hy
    rw [List.mem_singleton.mp hy] at hi'
    exact hi'
  have T : TopM N b.t.w b.t.g b.t.o (macOf b.ms ((N - 1 : Nat) : Int)) := ⟨hN0, by rw [tok.w, hN], D.ok, hids, D1, D2, fun i hi hr => D3 i ((hids i).mpr hi) hr⟩
  have hlast : b.t.p.getLastD [] = b.t.p.getD (N - 1) [] := by
    rw [List.getLastD_eq_getLast?, List.getLast?_eq_getElem?, List.getD_eq_getElem?_getD, hN]
  have hgb : ∀ n, gB n ≤ 56 := fun n => by
    unfold gB
    match n with
    | 0 => decide
    | 1 => decide
    | 2 => decide
    | 3 => decide
    | 4 => decide
    | 5 => decide
    | n + 6 => simp
  refine ⟨hrd, hN0, b.t.w, b.t.g, b.t.o, b.t.p.getLastD [], N + 1, rfl, rfl, rfl, rfl, by rw [tok.g, tok.w], by rw [tok.o, tok.w], by rw [tok.w, hN]; exact hN0, by rw [tok.w, hN]; exact hlen, ?_, run_end T, ?_, ?_, ?_⟩
  · rw [hlast]
    have hmem : b.t.p.getD (N - 1) [] ∈ b.t.p := by
      rw [List.getD_eq_getElem?_getD, List.getElem?_eq_getElem (ar442 hN hN0)]
      exact List.getElem_mem _
    have := tok.l _ hmem
    exact ar443 hlen hN this
  · exact two_states T D5
  · have := few_states T D4
    have := hgb (b.lv.getD (N - 1) 0)
    exact ar444 (by assumption) this
  · intro l' h1 h2
    rw [hlast]
    exact kept_path T D5 h1 h2
end Mine
end
section
open PySem PySem.W PyProof.Rows PySem.SeqAt
set_option Elab.async false
set_option linter.unusedVariables false
set_option linter.unnecessarySimpa false
set_option linter.unusedSimpArgs false
set_option maxRecDepth 100000
namespace Mine
def symD (c : Nat) : Option (List Int) := symOf in7 in1 (b3D.map (·.1)) (b3D.map (·.2)) c
theorem sym_b1 : ((List.range 27).all fun k => symD (if k < 11 then b1L.getD k 0 else 65013 + (k : Int)).toNat == some []) = true := by decide +kernel
theorem sym_c7 : ((List.range 12).all fun k => symD (12272 + (k : Int)).toNat == some [12272 + (k : Int)]) = true := by decide +kernel
theorem sym_lig : ((List.range 6).all fun k => symD (ligL.getD k 0).toNat == some ((ligS.getD k []).map Int.ofNat)) = true := by decide +kernel
theorem sym_G : symD 71 = some [103] := by rfl
theorem at_all {n : Nat} {p : Nat → Bool} (h : (List.range n).all p = true) {k : Nat} (hk : k < n) : p k = true := List.all_eq_true.mp h k (List.mem_range.mpr hk)
theorem dgetl_mem {c : Int} {s : Str} {D : List (Int × Str)} (hn : (D.map (·.1)).Nodup) (h : (c, s) ∈ D) : dgetl (D.map (·.1)) ((D.map (·.2)).map .str) c = some (.str s) := by
  induction D with
  | nil => cases h
  | cons p D ih =>
    show (if p.1 = c then some (AV.str p.2) else dgetl (D.map (·.1)) ((D.map (·.2)).map .str) c) = _
    have hn := List.nodup_cons.mp hn
    rcases List.mem_cons.mp h with e | h
    · rw [← e]; exact if_pos rfl
    · rw [if_neg fun (e : p.1 = c) => hn.1 (by show p.1 ∈ _; rw [e]; exact List.mem_map_of_mem (f := (·.1)) h)]; exact ih hn.2 h
theorem dgetl_no {c : Int} {D : List (Int × Str)} (h : (D.map (·.1)).all (fun k => decide (k ≠ c)) = true) : dgetl (D.map (·.1)) ((D.map (·.2)).map .str) c = none := by
  induction D with
  | nil => rfl
  | cons p D ih =>
    show (if p.1 = c then some (AV.str p.2) else dgetl (D.map (·.1)) ((D.map (·.2)).map .str) c) = _
    have h := Bool.and_eq_true_iff.mp h
    rw [if_neg (of_decide_eq_true h.1)]; exact ih h.2
def alpI : List Nat := [202, 228, 254, 298, 364, 390, 416, 442, 468, 494]
theorem alp_tab : ((List.range 10).all fun j => (b3D.drop (alpI.getD j 0)).take 26 == (List.range 26).map fun (k : Nat) => (alpL.getD (j + 1) 0 + (k : Int), (⟨#[97 + k]⟩ : Str))) = true := by decide +kernel
theorem alp_no : ((List.range 11).all fun j => (List.range 26).all fun k => decide ((((alpL.getD j 0 + (k : Int)).toNat : Nat) : Int) = alpL.getD j 0 + (k : Int)) && (!in7 (alpL.getD j 0 + (k : Int)) && !in1 (alpL.getD j 0 + (k : Int)))) = true := by decide +kernel
theorem alp_lo : (b3D.map (·.1)).all (fun k => decide (91 ≤ k)) = true := by decide +kernel
theorem sym_alp {j k : Nat} (hj : j < 11) (hk : k < 26) : symD (alpL.getD j 0 + (k : Int)).toNat = some [97 + (k : Int)] := by
  have h := at_all (at_all alp_no hj) hk
  simp only [Bool.and_eq_true, Bool.not_eq_true', decide_eq_true_eq] at h
  obtain ⟨h1, h2, h3⟩ := h
  unfold symD symOf b3Of
  rw [h1, h2, h3]
  cases j with
  | zero =>
    rw [dgetl_no (List.all_eq_true.mpr fun x hx => by have := of_decide_eq_true (List.all_eq_true.mp alp_lo x hx); exact decide_eq_true (by show ¬ x = (65 : Int) + k; lia))]
    have e : (alpL.getD 0 0 + (k : Int)).toNat = 65 + k := by show ((65 : Int) + k).toNat = _; lia
    rw [e]
    have : 65 ≤ 65 + k ∧ 65 + k ≤ 90 := by lia
    simp only [if_pos this]
    show some [((65 + k + 32 : Nat) : Int)] = _
    rw [show ((65 + k + 32 : Nat) : Int) = 97 + (k : Int) by lia]
  | succ j =>
    have h := beq_iff_eq.mp (at_all alp_tab (Nat.lt_of_succ_lt_succ hj))
    have m : (alpL.getD (j + 1) 0 + (k : Int), (⟨#[97 + k]⟩ : Str)) ∈ b3D := List.mem_of_mem_drop (List.mem_of_mem_take (h ▸ List.mem_map.mpr ⟨k, List.mem_range.mpr hk, rfl⟩))
    rw [dgetl_mem b3_nodup m]
    show some [((97 + k : Nat) : Int)] = _
    rw [show ((97 + k : Nat) : Int) = 97 + (k : Int) by lia]
end Mine
end
section
open PySem PySem.W PyProof.Rows PySem.SeqAt
set_option Elab.async false
set_option linter.unusedVariables false
set_option linter.unnecessarySimpa false
set_option linter.unusedSimpArgs false
set_option maxRecDepth 100000
namespace Mine
def Low (m : List Int) : Prop := ∀ s ∈ m, 97 ≤ s ∧ s ≤ 122
theorem low_ar {s : Int} (h : 97 ≤ s ∧ s ≤ 122) : arity s = 0 := by unfold arity; rw [if_neg (ar53 h)]
theorem low_w {s : Int} (h : 97 ≤ s ∧ s ≤ 122) : 0 < weightOf s ∧ s ≠ 0 := by unfold weightOf; rw [if_neg (ar53 h)]; exact ar147 h
theorem Pre.letters {n : Nat} : ∀ {m t : List Int} {k : Nat}, Low m → Pre n t k → m.length ≤ k → Pre n (t ++ m) (k - m.length)
  | [], t, k, _, h, _ => by simpa using h
  | s :: m, t, k, hm, h, hk => by
    have hs := low_ar (hm s List.mem_cons_self)
    simp only [List.length_cons] at hk
    have h1 := h.snoc (s := s) (ar148 hk)
    rw [hs] at h1
    have := Pre.letters (m := m) (fun x hx => hm x (List.mem_cons_of_mem _ hx)) h1 (ar149 hk)
    have e : t ++ s :: m = (t ++ [s]) ++ m := by simp
    rw [e]
    have e2 : k - (s :: m).length = k - 1 + 0 - m.length := by simp; exact ar150
    rw [e2]; exact this
theorem lets_app (a b : List Int) : lets (a ++ b) = lets a + lets b := by unfold lets; rw [List.filter_append, List.length_append]
theorem lets_low {m : List Int} (h : Low m) : lets m = m.length := by
  unfold lets
  rw [List.filter_eq_self.mpr fun s hs => by unfold isLet; rw [low_ar (h s hs)]; rfl]
/-- what a sign list says -/
def Says (sg told : List Int) : Prop := ∃ ls : List (List Int), (sg.map Int.toNat).map symD = ls.map some ∧ (∀ l ∈ ls, l.length ≤ 100) ∧ ls.flatten = told
theorem Says.app {a b c d} (h : Says a b) (g : Says c d) : Says (a ++ c) (b ++ d) := by
  obtain ⟨l, h1, h2, h3⟩ := h
  obtain ⟨m, g1, g2, g3⟩ := g
  refine ⟨l ++ m, by simp only [List.map_append, h1, g1], fun x hx => ?_, by rw [List.flatten_append, h3, g3]⟩
  rcases List.mem_append.mp hx with hx | hx
  · exact h2 x hx
  · exact g2 x hx
theorem says_one {c : Int} {l : List Int} (h : symD c.toNat = some l) (hl : l.length ≤ 100) : Says [c] l := ⟨[l], by simp [h], by simpa using hl, by simp⟩
theorem says_rep (a : Nat) : Says (List.replicate a 71) (List.replicate a 103) := by
  induction a with
  | zero => exact ⟨[], rfl, by decide +kernel, rfl⟩
  | succ a ih =>
    have h1 : Says [71] [103] := says_one sym_G (by exact Nat.succ_pos _)
    have := h1.app ih
    assumption
structure PInv (p : PS) : Prop where
  says : Says p.s p.t
  pre : Pre 1 p.t p.a.toNat
  w : ∀ s ∈ p.t, 0 < weightOf s ∧ s ≠ 0
  l : (lets p.t : Int) = p.l
theorem PInv.low {p : PS} (h : PInv p) (ha : 0 ≤ p.a) {sg m : List Int} (hs : Says sg m) (hm : Low m) (hl : (m.length : Int) ≤ p.a) : PInv ⟨p.s ++ sg, p.t ++ m, p.a - m.length, p.l + m.length⟩ := by
  refine ⟨h.says.app hs, ?_, fun s hs => ?_, ?_⟩
  · have := Pre.letters hm h.pre (ar151 hl)
    have e : (p.a - m.length).toNat = p.a.toNat - m.length := ar152
    dsimp only
    rw [e]; exact this
  · rcases List.mem_append.mp hs with hs | hs
    · exact h.w s hs
    · exact low_w (hm s hs)
  · dsimp only
    rw [lets_app, lets_low hm]
    have := h.l
    exact ar153 this
theorem pageStep_inv {p : PS} (h : PInv p) (ha : 0 ≤ p.a) {x : Int} (hx : 0 ≤ x) : PInv (pageStep p x) := by
  unfold pageStep
  dsimp only
  split
  · obtain ⟨k, hk, ek⟩ : ∃ k : Nat, k < 27 ∧ x / 8 % 27 = (k : Int) := ⟨(x / 8 % 27).toNat, ar154, ar155⟩
    have h1 := at_all sym_b1 hk
    have h1 := beq_iff_eq.mp h1
    have e : (if x / 8 % 27 < 11 then b1L.getD (x / 8 % 27).toNat 0 else 65013 + x / 8 % 27) = (if k < 11 then b1L.getD k 0 else 65013 + (k : Int)) := by
      rw [ek]
      by_cases hk : k < 11
      · rw [if_pos hk, if_pos (ar156 hk)]; rfl
      · rw [if_neg hk, if_neg (ar157 hk)]
    rw [e]
    have := h.says.app (says_one h1 (by exact Nat.zero_le _))
    rw [List.append_nil] at this
    exact ⟨this, h.pre, h.w, h.l⟩
  · split
    · obtain ⟨k, hk, ek⟩ : ∃ k : Nat, k < 12 ∧ x / 8 % 12 = (k : Int) := ⟨(x / 8 % 12).toNat, ar158, ar159⟩
      have h1 := beq_iff_eq.mp (at_all sym_c7 hk)
      rw [ek]
      have hs := says_one h1 (by exact Nat.succ_pos _)
      obtain ⟨more, em, har, hmo⟩ : ∃ more : Int, (if (12272 + (k : Int)) = 12274 ∨ (12272 + (k : Int)) = 12275 then (2 : Int) else 1) = more ∧ arity (12272 + (k : Int)) = 1 + more.toNat ∧ 1 ≤ more := by
        unfold arity
        have hge : (12272 + (k : Int)) ≥ 256 := ar54
        by_cases hq : (12272 + (k : Int)) = 12274 ∨ (12272 + (k : Int)) = 12275
        · exact ⟨2, by rw [if_pos hq], by rw [if_pos hge, if_pos hq]; rfl, by decide⟩
        · exact ⟨1, by rw [if_neg hq], by rw [if_pos hge, if_neg hq]; rfl, by decide⟩
      rw [em]
      split
      · rename_i hc
        refine ⟨h.says.app hs, ?_, fun s hs => ?_, ?_⟩
        · have := h.pre.snoc (s := 12272 + (k : Int)) (ar160 hc)
          rw [har] at this
          dsimp only
          have e : (p.a + more).toNat = p.a.toNat - 1 + (1 + more.toNat) := by lia
          rw [e]; exact this
        · rcases List.mem_append.mp hs with hs | hs
          · exact h.w s hs
          · simp at hs; subst hs
            unfold weightOf
            rw [if_pos (ar54)]; exact ar162
        · dsimp only
          rw [lets_app]
          have e : lets [12272 + (k : Int)] = 0 := by
            unfold lets
            rw [List.filter_cons_of_neg]
            · rfl
            · unfold isLet; rw [har]; simp
          rw [e]
          exact h.l
      · exact h
    · split
      · obtain ⟨k, hk, ek⟩ : ∃ k : Nat, k < 6 ∧ (x / 8 % 6).toNat = k := ⟨(x / 8 % 6).toNat, ar24, rfl⟩
        rw [ek]
        have h1 := beq_iff_eq.mp (at_all sym_lig hk)
        have hm : Low ((ligS.getD k []).map Int.ofNat) := by
          have : ∀ k : Fin 6, ∀ s ∈ (ligS.getD k.val []).map Int.ofNat, 97 ≤ s ∧ s ≤ 122 := by decide
          exact this ⟨k, hk⟩
        have h3 := ligS_len k
        split
        · rename_i hc
          have := h.low ha (says_one h1 (by rw [List.length_map]; exact ar163 h3)) hm (by rw [List.length_map]; exact hc)
          simpa using this
        · exact h
      · split
        · rename_i hc
          obtain ⟨k, hk, ek⟩ : ∃ k : Nat, k < 26 ∧ x / 8 % 26 = (k : Int) := ⟨(x / 8 % 26).toNat, ar164, ar165⟩
          obtain ⟨j, hj, ej⟩ : ∃ j : Nat, j < 11 ∧ (x / 8 / 26 % 11).toNat = j := ⟨(x / 8 / 26 % 11).toNat, ar55, rfl⟩
          rw [ek, ej]
          have h1 := sym_alp hj hk
          have := h.low ha (says_one h1 (by exact Nat.succ_pos _)) (m := [97 + (k : Int)]) (fun s hs => by simp at hs; exact ar166 hk hs) (by simp; exact ar167 hc)
          assumption
        · exact h
theorem page_inv : ∀ (xs : List Int) (p : PS) (n : Nat), PInv p → PageOk p n → (∀ x ∈ xs, 0 ≤ x) → PInv (xs.foldl pageStep p)
  | [], p, n, h, _, _ => h
  | x :: xs, p, n, h, ok, hx => page_inv xs _ (n + 1) (pageStep_inv h ok.a0 (hx x List.mem_cons_self)) (pageStep_ok ok (hx x List.mem_cons_self)) fun y hy => hx y (List.mem_cons_of_mem _ hy)
theorem plain_law (script : List Int) : PlainLaw in7 in1 (b3D.map (·.1)) (b3D.map (·.2)) (signsOf (pageRun (drawnOf script))) (toldOf (pageRun (drawnOf script))) := by
  have hx : ∀ x ∈ drawnOf script, 0 ≤ x := fun x hx => by
    unfold drawnOf at hx
    rcases List.mem_append.mp hx with hx | hx
    · obtain ⟨y, _, rfl⟩ := List.mem_map.mp hx
      exact ar168
    · have := List.mem_of_mem_drop hx
      simp at this
      exact ar56 this
  have hl : (drawnOf script).length ≤ 9 := by unfold drawnOf; simp; exact ar169
  have ok := pageRun_ok (drawnOf script) hx
  have i0 : PInv ⟨[12276], [12276], 2, 0⟩ := by
    have h1 := beq_iff_eq.mp (at_all sym_c7 (k := 4) (by decide +kernel))
    refine ⟨says_one h1 (by exact Nat.succ_pos _), ?_, fun s hs => ?_, by decide +kernel⟩
    · exact ⟨by exact Nat.succ_pos _, by show 1 - 1 + arity 12276 = (2 : Int).toNat; decide +kernel⟩
    · simp at hs; subst hs; decide +kernel
  have inv : PInv (pageRun (drawnOf script)) := page_inv (drawnOf script) _ 0 i0 ⟨by exact Nat.succ_pos _, by exact Nat.succ_pos _, by constructor, by constructor, by constructor, by decide +kernel⟩ hx
  generalize pageRun (drawnOf script) = p at *
  generalize (drawnOf script).length = n at *
  have ha := ok.a0
  have hal := ok.al
  have hl0 := ok.l0
  have hlow : Low (List.replicate p.a.toNat 103) := fun s hs => by rw [List.eq_of_mem_replicate hs]; decide +kernel
  have fin := inv.low ha (says_rep p.a.toNat) hlow (by simp; exact ar170 ha)
  have hlet := fin.l
  have hpre := fin.pre
  dsimp only at hlet hpre
  simp only [List.length_replicate] at hlet hpre
  have e0 : (p.a - (p.a.toNat : Int)).toNat = 0 := ar171
  rw [e0] at hpre
  obtain ⟨ls, s1, s2, s3⟩ := fin.says
  have ht := ok.t
  have hs := ok.s
  have htl : (toldOf p).length ≤ 60 := by unfold toldOf; simp; exact ar172 hl hal hl0 ht
  obtain ⟨r1, r2, r3⟩ := row_law (l := toldOf p) hpre fin.w (by unfold toldOf; exact ar173 ha hal hlet) htl
  obtain ⟨w, g, o, path, K, r3⟩ := r3
  exact ⟨ls, w, g, o, path, K, by unfold signsOf; simp; exact ar174 hl hal hl0 hs, s1, s2, s3, r1, htl, r2, r3.1, r3.2.1, r3.2.2.1, r3.2.2.2.1, r3.2.2.2.2.1, r3.2.2.2.2.2.1, r3.2.2.2.2.2.2.1, r3.2.2.2.2.2.2.2.1, r3.2.2.2.2.2.2.2.2.1, r3.2.2.2.2.2.2.2.2.2.1, r3.2.2.2.2.2.2.2.2.2.2.1, r3.2.2.2.2.2.2.2.2.2.2.2.1, r3.2.2.2.2.2.2.2.2.2.2.2.2⟩
theorem rw0_holds : rw0.Holds := law_holds fun script _ => plain_law script
end Mine
end
open PySem PySem.W PyProof.Rows
theorem PySem.Challenge.cw_rl0096_01_holds : PySem.Challenge.rw_rl0096_01.Holds :=
  Mine.rw0_holds

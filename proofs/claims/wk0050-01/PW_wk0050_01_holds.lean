import PyProof.Rows.All
import Wide.All
import OpenK.AllK
import Wide.FinOn
import Lean
import PySem.Challenge.RW_wk0050_01
set_option Elab.async false
section
set_option autoImplicit false
set_option Elab.async false
namespace Mine
theorem om1 {x0 : Nat}  : ((0 : Int) ≤ ((x0 : Nat) : Int)) := Int.natCast_nonneg _
theorem om2 {x0 : Nat} {x1 : Nat} {x2 : Nat} {x3 : Nat} (h0 : (x1 ≤ x3)) : (((x0 + x1) + x2) ≤ (x0 + (x2 + x3))) := by simp +arith [*]
theorem om3 {x0 : Nat}  : (x0 ≤ (x0 + (1 : Nat))) := by simp_all
theorem om4 {x0 : Nat} {x1 : Nat} (h0 : ((x0 + (1 : Nat)) ≤ x1)) : (x0 < x1) := h0
theorem om5 {x0 : Nat} {x1 : Nat} {x2 : Nat} (h0 : ((x2 + x0) ≤ x1)) : (x0 ≤ x1) := by grind
theorem om6 {x0 : Nat}  : ((x0 + x0) = (x0 * (2 : Nat))) := by simp +arith at *
theorem om7 {x0 : Nat} {x1 : Nat} {x2 : Nat} (h0 : (x2 ≤ (x1 + (1 : Nat)))) (h1 : (x2 = (x0 + (1 : Nat)))) : (x0 ≤ x1) := by simp_all
theorem om8 {x0 : Int}  : (((-x0) + ((0 : Int) + x0)) = (0 : Int)) := by simp +arith at *
theorem om9 {x0 : Nat} {x1 : Nat} {x2 : Nat} (h0 : ((x0 + (1 : Nat)) < x2)) (h1 : (x2 = (x1 + (1 : Nat)))) : (x0 < x1) := by simp_all
theorem om10 {x0 : Int}  : ((x0 + (0 : Int)) = x0) := Int.add_zero _
theorem om11 {x0 : Int} {x1 : Int} {x2 : Int}  : ((x0 + (x1 + x2)) = (x1 + (x0 + x2))) := by simp +arith at *
theorem om12 {x0 : Nat} {x1 : Nat} (h0 : (¬ (x1 ≤ x0))) : (x0 < x1) := Nat.lt_of_not_le h0
theorem om13 {x0 : Nat} {x1 : Nat} (h0 : ((x0 + (1 : Nat)) ≤ x1)) : (x0 ≤ x1) := Nat.le_of_lt h0
theorem om14 {x0 : Nat} {x1 : Nat} {x2 : Nat} (h0 : (x2 < x1)) (h1 : (x0 < x2)) : (x0 < x1) := Nat.lt_trans h1 h0
theorem om15 {x0 : Nat} {x1 : Nat} {x2 : Nat} (h0 : (x0 ≤ ((x1 + (1 : Nat)) + x2))) : (x0 ≤ (x1 + (x2 + (1 : Nat)))) := by lia
theorem om16 {x0 : Nat} {x1 : Nat} {x2 : Nat} (h0 : (x2 ≤ ((0 : Nat) + x0))) (h1 : (x1 ≤ x2)) : (¬ (x0 < x1)) := by lia
theorem om17 {x0 : Nat} {x1 : Nat} {x2 : Nat} (h0 : (¬ (x1 < x2))) (h1 : (x0 < x2)) : (x0 < x1) := by lia
theorem om18 {x0 : Nat} {x1 : Nat} (h0 : (x0 ≥ x1)) (h1 : (x0 < (x1 + (1 : Nat)))) : (x0 = x1) := by lia
theorem om19 {x0 : Nat} {x1 : Nat} {x2 : Nat} (h0 : (x2 = x1)) (h1 : (x0 < x2)) : (x0 < x1) := by subst h0; assumption
theorem om20 {x0 : Nat} {x1 : Nat} (h0 : (x0 = x1)) : (x0 ≤ x1) := by subst h0; simp
theorem om21 {x0 : Nat} {x1 : Nat} {x2 : Nat} (h0 : (x1 = x2)) (h1 : (x0 < x2)) : (x0 < x1) := by subst h0; assumption
theorem om22 {x0 : Nat} {x1 : Nat} {x2 : Nat} (h0 : (x0 = x1)) : (x0 ≤ (x1 + x2)) := by subst h0; simp
theorem om23 {x0 : Nat} {x1 : Nat} (h0 : ((x1 + x0) < (x1 * (2 : Nat)))) : (x0 < x1) := by lia
theorem om24 {x0 : Nat} {x1 : Nat} (h0 : (¬ (x0 < x1))) : (x0 = (x1 + (x0 - x1))) := by simp_all
theorem om25 {x0 : Nat} (h0 : (x0 < ((2 : Nat) ^ (0 : Nat)))) : (x0 = (0 : Nat)) := by simp_all
theorem om26 {x0 : Int} {x1 : Int} (h0 : ((x0 - x1) = (0 : Int))) : (x0 = x1) := by grind
theorem om27 {x0 : Nat} {x1 : Nat} {x2 : Nat} (h0 : (x0 = x2)) (h1 : (x1 ≥ x2)) : (x0 ≤ x1) := by subst h0; assumption
theorem om28 {x0 : Nat} {x1 : Nat} (h0 : (x0 ≥ x1)) : (¬ (x0 < x1)) := by simp +arith [*]
theorem om29 {x0 : Nat} {x1 : Nat} (h0 : ((0 : Nat) < x0)) : ((x0 - (x1 + (1 : Nat))) < x0) := by omega
theorem om30 {x0 : Nat} {x1 : Nat} (h0 : (x0 ≤ x1)) (h1 : (x1 < x0)) : False := by lia
theorem om31 {x0 : Nat} {x1 : Nat} (h0 : ((x0 = (5 : Nat)) ∨ (x0 = (6 : Nat)))) (h1 : (x1 ≥ (6 : Nat))) (h2 : (x1 < x0)) : False := by lia
theorem om32 {x0 : Nat} {x1 : Nat} (h0 : ((x1 = (5 : Nat)) ∨ (x1 = (6 : Nat)))) (h1 : (x0 < x1)) : (x0 < (6 : Nat)) := by lia
theorem om33 {x0 : Nat} (h0 : (x0 < (3 : Nat))) : ((x0 = (0 : Nat)) ∨ ((x0 = (1 : Nat)) ∨ (x0 = (2 : Nat)))) := by grind
theorem om34 {x0 : Nat} {x1 : Nat} {x2 : Nat} {x3 : Nat} (h0 : ((x0 + x1) ≤ x2)) (h1 : (x3 < x1)) (h2 : ((x0 + x3) = x2)) : False := by grind
theorem om35 {x0 : Nat} {x1 : Nat} {x2 : Nat} {x3 : Nat} (h0 : (x2 = x3)) (h1 : ((x0 + x1) < x3)) : ((x0 + x1) < x2) := by subst h0; assumption
theorem om36 {x0 : Nat} {x1 : Nat} {x2 : Nat} (h0 : ((x0 + x2) ≤ x1)) : (x0 ≤ x1) := by grind
theorem om37 {x0 : Nat} {x1 : Nat} {x2 : Nat} (h0 : (x1 < x2)) (h1 : ((x0 + (1 : Nat)) = x2)) (h2 : ((x1 + (1 : Nat)) ≥ x2)) : (x0 = x1) := by lia
theorem om38 {x0 : Nat} (h0 : ((0 : Nat) = (x0 + (1 : Nat)))) : False := by grind
theorem om39 {x0 : Nat} {x1 : Nat} (h0 : (x0 < x1)) (h1 : ((x0 + (1 : Nat)) ≥ x1)) : ((x0 + (1 : Nat)) = x1) := by grind
theorem om40 {x0 : Nat} {x1 : Nat} (h0 : ((x0 + (1 : Nat)) = (x1 + (1 : Nat)))) : (x0 = x1) := by simp_all
theorem om41 {x0 : Nat} {x1 : Nat} (h0 : (x1 < x0)) : ((0 : Nat) < x0) := by grind
theorem om42 {x0 : Nat} {x1 : Nat}  : (x0 ≤ (x0 + x1)) := by simp_all
theorem om43 {x0 : Nat} {x1 : Nat} {x2 : Nat} {x3 : Nat} (h0 : (x0 < (min x1 (x2 - x3)))) : (x0 < x1) := by grind
theorem om44 {x0 : Nat} {x1 : Nat} {x2 : Nat} {x3 : Nat} {x4 : Nat} (h0 : (x3 = x2)) (h1 : (x1 < (min x4 (x3 - x0)))) : ((x0 + x1) < x2) := by omega
theorem om45 {x0 : Nat} {x1 : Nat} (h0 : (x0 < (x1 + (1 : Nat)))) (h1 : (¬ (x0 = x1))) : (x0 < x1) := by lia
theorem om46 {x0 : Nat} {x1 : Nat} {x2 : Nat} (h0 : ((x2 + (1 : Nat)) ≤ x1)) (h1 : (x0 < (x2 + (1 : Nat)))) : (x0 < x1) := Nat.lt_of_lt_of_le h1 h0
theorem om47 {x0 : Nat} {x1 : Nat} (h0 : (x0 < x1)) : (x0 < (x1 + (1 : Nat))) := Nat.le_succ_of_le h0
theorem om48 {x0 : Nat} {x1 : Nat} (h0 : (((x0 + ((8 : Nat) * x1)) + (100 : Nat)) < (9900 : Nat))) : (x0 < (9900 : Nat)) := by grind
theorem om49 {x0 : Nat} {x1 : Nat} (h0 : ((x0 + x1) < (1000 : Nat))) : (x0 < (1000 : Nat)) := by grind
theorem om50 {x0 : Nat} {x1 : Nat} {x2 : Nat} (h0 : (x1 ≤ x2)) (h1 : (((x0 + ((8 : Nat) * x2)) + (100 : Nat)) < (9900 : Nat))) : (((x0 + ((8 : Nat) * x1)) + (100 : Nat)) < (9900 : Nat)) := by grind
theorem om51 {x0 : Nat} {x1 : Nat} {x2 : Nat} (h0 : (x1 ≤ x2)) (h1 : ((x0 + x2) < (1000 : Nat))) : ((x0 + x1) < (1000 : Nat)) := by grind
theorem om52 {x0 : Nat} {x1 : Nat} (h0 : (((x0 + ((8 : Nat) * (x1 + (1 : Nat)))) + (100 : Nat)) < (9900 : Nat))) : ((((x0 + (1 : Nat)) + ((8 : Nat) * x1)) + (100 : Nat)) < (9900 : Nat)) := by lia
theorem om53 {x0 : Nat} {x1 : Nat} (h0 : ((x0 + (x1 + (1 : Nat))) < (1000 : Nat))) : ((x0 + x1) < (1000 : Nat)) := Nat.le_of_lt h0
theorem om54 {x0 : Nat} {x1 : Nat} (h0 : (((x0 + ((8 : Nat) * (x1 + (1 : Nat)))) + (100 : Nat)) < (9900 : Nat))) : ((((x0 + (3 : Nat)) + ((8 : Nat) * x1)) + (100 : Nat)) < (9900 : Nat)) := by lia
theorem om55 {x0 : Nat} {x1 : Nat} (h0 : ((x0 + (x1 + (1 : Nat))) < (1000 : Nat))) : (((x0 + (1 : Nat)) + x1) < (1000 : Nat)) := by lia
theorem om56 {x0 : Nat} {x1 : Nat} (h0 : (x0 ≤ x1)) (h1 : (¬ (x0 < x1))) : (x0 = x1) := by lia
theorem om57 {x0 : Nat} {x1 : Nat} (h0 : (x1 < x0)) : (((x0 + (1 : Nat)) - (x1 + (1 : Nat))) < ((x0 + (1 : Nat)) - x1)) := by grind
theorem om58 {x0 : Int} (h0 : (x0 < ((2 : Int) ^ (62 : Nat)))) : (x0 < ((2 : Int) ^ (62 : Nat))) := by omega
theorem om59 {x0 : Int} {x1 : Int} (h0 : ((0 : Int) ≤ x1)) (h1 : (x1 ≤ x0)) : ((-((2 : Int) ^ (62 : Nat))) ≤ x0) := by lia
theorem om60 {x0 : Int} {x1 : Int} (h0 : (x1 < ((2 : Int) ^ (62 : Nat)))) (h1 : (x0 ≤ x1)) : (x0 < ((2 : Int) ^ (62 : Nat))) := by lia
theorem om61 {x0 : Int} (h0 : ((0 : Int) ≤ x0)) : ((-((2 : Int) ^ (62 : Nat))) ≤ x0) := by lia
theorem om62 {x0 : Int} (h0 : (x0 ≤ ((2 : Int) ^ (24 : Nat)))) : (x0 ≤ (16777216 : Int)) := h0
theorem om63 {x0 : Int} (h0 : (x0 ≤ ((2 : Int) ^ (24 : Nat)))) : (x0 < ((2 : Int) ^ (63 : Nat))) := by omega
theorem om64 {x0 : Int} (h0 : ((0 : Int) ≤ x0)) : ((-((2 : Int) ^ (63 : Nat))) ≤ x0) := by lia
theorem om65 {x0 : Nat} (h0 : (x0 < ((2 : Nat) ^ (62 : Nat)))) : (((x0 : Nat) : Int) < (9223372036854775808 : Int)) := Int.ofNat_lt.mpr (Nat.lt_of_lt_of_le h0 (by decide))
theorem om66 {x0 : Int} {x1 : Nat} {x2 : Nat} (h0 : (x0 = ((x2 : Nat) : Int))) (h1 : (x2 < x1)) : (x0 < ((x1 : Nat) : Int)) := by simp_all
theorem om67 {x0 : Int} {x1 : Nat} (h0 : (x0 = ((x1 : Nat) : Int))) (h1 : (x1 < ((2 : Nat) ^ (62 : Nat)))) : (x0 < ((2 : Int) ^ (63 : Nat))) := by lia
theorem om68 {x0 : Int} {x1 : Nat} (h0 : (x0 = ((x1 : Nat) : Int))) : ((0 : Int) ≤ x0) := by subst h0; simp
theorem om69 {x0 : Nat} {x1 : Nat} (h0 : (x0 < x1)) : (x0 < x1) := by omega
theorem om70 {x0 : Nat}  : (¬ (((x0 : Nat) : Int) < (0 : Int))) := by simp_all
theorem om71 {x0 : Int} {x1 : Nat} (h0 : (x0 = ((x1 : Nat) : Int))) : ((-((2 : Int) ^ (63 : Nat))) ≤ x0) := by simp_all
theorem om72 {x0 : Nat} {x1 : Nat} (h0 : (x0 ≤ x1)) : (x0 ≤ (x1 + (1 : Nat))) := Nat.le_succ_of_le h0
theorem om73 {x0 : Int} {x1 : Int} (h0 : (¬ (x1 > x0))) : ((max x0 x1) = x0) := by grind
theorem om74 {x0 : Int} {x1 : Int} (h0 : (x1 > x0)) : ((max x0 x1) = x1) := by lia
theorem om75 {x0 : Nat} {x1 : Int} (h0 : ((0 : Int) ≤ x1)) : ((-((x0 : Nat) : Int)) ≤ x1) := by grind
theorem om76 {x0 : Int} (h0 : ((0 : Int) ≤ x0)) (h1 : (x0 < ((2 : Int) ^ (62 : Nat)))) : (((-(9223372036854775808 : Int)) ≤ x0) ∧ (x0 < (9223372036854775808 : Int))) := by lia
theorem om77 {x0 : Nat} {x1 : Nat} (h0 : (x1 = x0)) : (x0 ≤ x1) := by subst h0; simp
theorem om78 {x0 : Nat} (h0 : (x0 ≤ (100 : Nat))) : (x0 ≤ (1000 : Nat)) := Nat.le_trans h0 (by decide)
theorem om79 {x0 : Nat} {x1 : Nat} (h0 : (¬ (x0 = x1))) : (¬ (((x0 : Nat) : Int) = ((x1 : Nat) : Int))) := by grind
theorem om80 {x0 : Nat} {x1 : Nat} (h0 : (((x0 + ((8 : Nat) * x1)) + (100 : Nat)) < (9900 : Nat))) : ((x0 + (64 : Nat)) < (9900 : Nat)) := by grind
theorem om81 {x0 : Nat} {x1 : Nat} {x2 : Nat} (h0 : (x2 = x0)) (h1 : (¬ (x1 < x2))) : (x0 ≤ x1) := by simp_all
theorem om82 {x0 : Nat}  : (¬ ((x0 + (1 : Nat)) < x0)) := by simp_all
theorem om83 {x0 : Nat}  : (x0 ≤ ((x0 + (1 : Nat)) + (1 : Nat))) := by simp +arith at *
theorem om84 {x0 : Nat} {x1 : Nat} (h0 : (x1 < (64 : Nat))) (h1 : (x0 = x1)) : (x0 ≤ (1000 : Nat)) := by subst h1; exact Nat.le_of_lt (Nat.lt_of_lt_of_le h0 (by decide))
theorem om85 {x0 : Nat} {x1 : Nat} {x2 : Nat} (h0 : (x1 < (64 : Nat))) (h1 : (x2 = x1)) (h2 : (x0 = x2)) : (x0 ≤ (1000 : Nat)) := by lia
theorem om86 {x0 : Nat} {x1 : Nat} (h0 : (x1 < (64 : Nat))) (h1 : (x0 = x1)) : (x0 < (64 : Nat)) := by subst h1; assumption
theorem om87 {x0 : Nat} {x1 : Nat} (h0 : ((2 : Nat) ≤ x1)) (h1 : (x0 = x1)) : ((2 : Nat) ≤ x0) := by subst h1; assumption
theorem om88 {x0 : Nat} {x1 : Nat} (h0 : ((2 : Nat) ≤ x1)) (h1 : (x0 = x1)) : (¬ (x0 < (2 : Nat))) := by simp_all
theorem om89 {x0 : Nat} {x1 : Nat} {x2 : Nat} (h0 : (x2 = x1)) (h1 : (x0 = x2)) : (x0 = x1) := by subst h0; assumption
theorem om90 {x0 : Nat} {x1 : Nat} {x2 : Nat} {x3 : Nat} (h0 : (x1 < (64 : Nat))) (h1 : (x2 = x1)) (h2 : (x0 = x3)) (h3 : (x3 < x2)) : ((x0 + (1 : Nat)) ≤ (1000 : Nat)) := by lia
theorem om91 {x0 : Nat} {x1 : Nat} {x2 : Nat} {x3 : Nat} (h0 : (x1 < (64 : Nat))) (h1 : (x2 = x1)) (h2 : (x0 = x3)) (h3 : (x3 < x2)) : (x0 ≤ (1000 : Nat)) := by lia
theorem om92 {x0 : Nat} {x1 : Nat} (h0 : (x1 < (64 : Nat))) (h1 : (x0 = x1)) : (x0 ≤ (16777216 : Nat)) := by subst h1; exact Nat.le_of_lt (Nat.lt_of_lt_of_le h0 (by decide))
theorem om93 {x0 : Nat}  : (((0 : Int) + (((x0 : Nat) : Int) * (1 : Int))) = ((x0 : Nat) : Int)) := by simp_all
theorem om94 {x0 : Nat} (h0 : (x0 < (64 : Nat))) : (x0 ≤ ((2 : Nat) ^ (24 : Nat))) := Nat.le_of_lt (Nat.lt_of_lt_of_le h0 (by decide))
theorem om95 {x0 : Nat} (h0 : (x0 < (64 : Nat))) : (((x0 : Nat) : Int) < ((2 : Int) ^ (62 : Nat))) := Int.ofNat_lt.mpr (Nat.lt_of_lt_of_le h0 (by decide))
theorem om96 {x0 : Nat}  : ((-((2 : Int) ^ (62 : Nat))) ≤ ((x0 : Nat) : Int)) := Int.natCast_nonneg _
theorem om97 : ((0 : Int) < ((2 : Int) ^ (62 : Nat))) := Int.natCast_nonneg _
theorem om98 : ((-((2 : Int) ^ (62 : Nat))) ≤ (0 : Int)) := Int.natCast_nonneg _
theorem om99 {x0 : Nat} (h0 : (x0 ≤ (1000 : Nat))) : (x0 ≤ ((16777216 : Nat) + (1 : Nat))) := Nat.le_trans h0 (by decide)
theorem om100 {x0 : Nat} (h0 : (x0 ≤ (1000 : Nat))) : (x0 ≤ (16777216 : Nat)) := Nat.le_trans h0 (by decide)
theorem om101 {x0 : Nat} {x1 : Nat} (h0 : (x1 < ((2 : Nat) ^ (10 : Nat)))) (h1 : (x0 < x1)) : (x0 < ((2 : Nat) ^ (62 : Nat))) := by lia
theorem om102 {x0 : Nat} {x1 : Nat} {x2 : Nat} (h0 : (x2 < x1)) (h1 : (x0 ≤ x2)) : (x0 ≤ x1) := by lia
theorem om103 {x0 : Nat} {x1 : Nat} (h0 : (¬ (((x0 : Nat) : Int) < ((x1 : Nat) : Int)))) : (¬ (x0 < x1)) := by simp_all
theorem om104 {x0 : Nat} {x1 : Nat} {x2 : Nat} (h0 : (((x0 + (1 : Nat)) + x1) = x2)) : ((x0 + (x1 + (1 : Nat))) = x2) := by grind
theorem om105 {x0 : Nat}  : (x0 < (x0 + (1 : Nat))) := by simp_all
theorem om106 {x0 : Nat}  : ((((x0 : Nat) : Int) + (1 : Int)) = (((x0 + (1 : Nat)) : Nat) : Int)) := Int.natCast_add _ _
theorem om107 {x0 : Nat} (h0 : (x0 < (2 : Nat))) : (x0 < ((2 : Nat) ^ (62 : Nat))) := Nat.lt_of_lt_of_le h0 (by decide)
theorem om108 {x0 : Nat} {x1 : Nat} {x2 : Nat} (h0 : (x1 < ((2 : Nat) ^ (10 : Nat)))) (h1 : (x0 < x2)) (h2 : (x2 ≤ x1)) : (x0 < ((2 : Nat) ^ (62 : Nat))) := by lia
theorem om109 {x0 : Nat} {x1 : Nat} {x2 : Nat} {x3 : Nat} (h0 : ((x0 + x1) = x2)) (h1 : (x3 ≤ x2)) (h2 : (x1 < x3)) : (x0 = ((x0 - (1 : Nat)) + (1 : Nat))) := by grind
theorem om110 {x0 : Nat} {x1 : Nat} (h0 : (((x0 : Nat) : Int) < ((x1 : Nat) : Int))) : (x0 < x1) := Int.ofNat_lt.mp h0
theorem om111 {x0 : Nat}  : (((0 : Int) + ((x0 : Nat) : Int)) = ((x0 : Nat) : Int)) := Int.zero_add _
theorem om112 {x0 : Nat} {x1 : Nat} (h0 : (x0 < x1)) : (x0 ≤ x1) := Nat.le_of_lt h0
theorem om113 {x0 : Nat} {x1 : Nat} (h0 : (x1 = x0)) : ((Int.toNat (((x0 : Nat) : Int) - (0 : Int))) = x0) := by rfl
theorem om114 {x0 : Nat} {x1 : Nat} (h0 : (x0 = x1)) (h1 : (x1 < ((2 : Nat) ^ (10 : Nat)))) : (((x0 : Nat) : Int) < ((2 : Int) ^ (62 : Nat))) := by lia
theorem om115 : ((0 : Int) ≤ (0 : Int)) := Int.natCast_nonneg _
theorem om116 {x0 : Nat} {x1 : Nat} (h0 : (x0 = x1)) (h1 : (x1 < ((2 : Nat) ^ (10 : Nat)))) : (x0 < ((2 : Nat) ^ (62 : Nat))) := by subst h0; exact Nat.lt_of_lt_of_le h1 (by decide)
theorem om117 {x0 : Nat} {x1 : Nat} (h0 : (x0 = x1)) (h1 : (x1 < ((2 : Nat) ^ (10 : Nat)))) : (((x0 : Nat) : Int) ≤ ((2 : Int) ^ (24 : Nat))) := by lia
theorem om118 {x0 : Nat} {x1 : Nat} {x2 : Nat} (h0 : ((x2 + x0) = x1)) (h1 : (x0 ≥ x1)) : (x0 = x1) := by grind
theorem om119 {x0 : Nat} {x1 : Nat} (h0 : (¬ (((x0 : Nat) : Int) < ((x1 : Nat) : Int)))) (h1 : (x0 < x1)) : False := absurd (Int.ofNat_lt.mpr h1) h0
theorem om120 {x0 : Nat} {x1 : Nat} {x2 : Nat} (h0 : ((x0 + x1) = x2)) (h1 : (x1 < x2)) : (((x0 - (1 : Nat)) + (x1 + (1 : Nat))) = x2) := by grind
theorem om121 {x0 : Nat} {x1 : Nat} {x2 : Nat} (h0 : ((x0 + x1) = x2)) (h1 : (x1 < x2)) : ((x0 - (1 : Nat)) < x0) := by grind
theorem om122 {x0 : Nat} {x1 : Nat} (h0 : (x1 < ((2 : Nat) ^ (10 : Nat)))) (h1 : (((x0 : Nat) : Int) < ((x1 : Nat) : Int))) : ((x0 + x0) ≤ ((2 : Nat) ^ (24 : Nat))) := by grind
theorem om123 {x0 : Nat} {x1 : Nat} (h0 : (((x0 : Nat) : Int) < ((x1 : Nat) : Int))) (h1 : (x1 ≤ x0)) : False := absurd (Int.ofNat_lt.mp h0) (Nat.not_lt.mpr h1)
theorem om124 {x0 : Nat} {x1 : Nat}  : ((min x0 x1) ≤ x0) := by lia
theorem om125 {x0 : Nat} {x1 : Nat} {x2 : Nat} (h0 : (x1 ≤ (6 : Nat))) (h1 : ((x2 + x0) = x1)) : (x0 ≤ (24 : Nat)) := by grind
theorem om126 {x0 : Nat} {x1 : Nat} (h0 : (x1 < ((2 : Nat) ^ (10 : Nat)))) (h1 : (x0 = x1)) : (x0 < ((2 : Nat) ^ (62 : Nat))) := by subst h1; exact Nat.lt_of_lt_of_le h0 (by decide)
theorem om127 {x0 : Nat} (h0 : (x0 ≤ (6 : Nat))) : (x0 < (10 : Nat)) := Nat.lt_of_le_of_lt h0 (by decide)
theorem om128 {x0 : Nat} {x1 : Nat} {x2 : Nat} (h0 : (x1 ≤ (6 : Nat))) (h1 : ((x2 + x0) = x1)) : (x0 < (10 : Nat)) := by grind
theorem om129 {x0 : Nat} (h0 : (x0 ≤ ((2 : Nat) ^ (6 : Nat)))) : ((x0 + x0) ≤ ((2 : Nat) ^ (24 : Nat))) := by grind
theorem om130 {x0 : Nat} (h0 : (x0 ≤ ((2 : Nat) ^ (6 : Nat)))) : (x0 ≤ ((2 : Nat) ^ (24 : Nat))) := Nat.le_trans h0 (by decide)
theorem om131 {x0 : Nat} (h0 : (x0 ≤ (6 : Nat))) : (((x0 : Nat) : Int) ≤ (1000000 : Int)) := Int.ofNat_le.mpr (Nat.le_trans h0 (by decide))
theorem om132 {x0 : Nat} {x1 : Nat} (h0 : (x1 ≤ (6 : Nat))) : ((min x0 x1) ≤ (6 : Nat)) := by grind
theorem om133 {x0 : Nat} (h0 : (¬ ((((x0 : Nat) : Int) % (2 : Int)) = (0 : Int)))) : (¬ ((x0 % (2 : Nat)) = (0 : Nat))) := by grind
theorem om134 {x0 : Nat} (h0 : ((((x0 : Nat) : Int) % (2 : Int)) = (0 : Int))) : ((x0 % (2 : Nat)) = (0 : Nat)) := by grind
theorem om135 : ((2 : Int) ≠ (0 : Int)) := by decide
theorem om136 {x0 : Nat} (h0 : (x0 ≤ (6 : Nat))) : (x0 < ((2 : Nat) ^ (62 : Nat))) := Nat.lt_of_le_of_lt h0 (by decide)
theorem om137 {x0 : Nat} {x1 : Nat} (h0 : (x1 ≤ (6 : Nat))) (h1 : (x0 < x1)) : (x0 < ((2 : Nat) ^ (62 : Nat))) := Nat.lt_of_lt_of_le h1 (Nat.le_trans h0 (by decide))
theorem om138 {x0 : Nat} {x1 : Nat} (h0 : (x1 < x0)) : (((x0 : Nat) : Int) ≠ (0 : Int)) := by grind
theorem om139 {x0 : Nat}  : ((Int.toNat (((x0 : Nat) : Int) - (0 : Int))) = x0) := by rfl
theorem om140 {x0 : Nat} (h0 : (x0 ≤ (6 : Nat))) : (((x0 : Nat) : Int) < ((2 : Int) ^ (62 : Nat))) := by lia
theorem om141 {x0 : Nat} {x1 : Nat} (h0 : (x0 ≤ (6 : Nat))) : ((min x0 x1) ≤ (6 : Nat)) := by lia
theorem om142 {x0 : Nat} {x1 : Nat} (h0 : (x1 ≤ (6 : Nat))) (h1 : (x0 = x1)) : (x0 ≤ ((2 : Nat) ^ (24 : Nat))) := by lia
theorem om143 {x0 : Nat} {x1 : Nat}  : ((((x0 : Nat) : Int) + ((x1 : Nat) : Int)) = (((x0 + x1) : Nat) : Int)) := Int.natCast_add _ _
theorem om144 {x0 : Nat} {x1 : Nat} (h0 : (x1 ≤ (6 : Nat))) (h1 : (x0 ≤ ((6 : Nat) * x1))) : (x0 ≤ (36 : Nat)) := by grind
theorem om145 {x0 : Nat} {x1 : Nat} (h0 : (x1 ≤ (6 : Nat))) (h1 : (x0 = x1)) : (x0 < (64 : Nat)) := by lia
theorem om146 {x0 : Nat} {x1 : Nat}  : ((((16 : Int) * ((x0 : Nat) : Int)) + ((x1 : Nat) : Int)) = (((((16 : Nat) * x0) + x1) : Nat) : Int)) := Int.natCast_add _ _
theorem om147 {x0 : Nat}  : (x0 = (((16 : Nat) * (x0 / (16 : Nat))) + (x0 % (16 : Nat)))) := by grind
theorem om148 {x0 : Nat}  : ((x0 % (16 : Nat)) < (16 : Nat)) := by grind
theorem om149 {x0 : Nat} (h0 : (x0 < (128 : Nat))) : ((x0 / (16 : Nat)) < (16 : Nat)) := by grind
theorem om150 {x0 : Nat} (h0 : (x0 < (128 : Nat))) : ((((65 : Nat) + (x0 / (16 : Nat))) < (128 : Nat)) ∧ (((65 : Nat) + (x0 % (16 : Nat))) < (128 : Nat))) := by lia
theorem om151 {x0 : Nat} (h0 : (x0 < (16 : Nat))) : (((65 : Nat) + x0) < (128 : Nat)) := by lia
theorem om152 {x0 : Nat} (h0 : (x0 = (0 : Nat))) : (x0 = (0 : Nat)) := by omega
theorem om153 {x0 : Nat} {x1 : Nat} (h0 : (x1 < (128 : Nat))) (h1 : (x0 ≤ ((128 : Nat) - x1))) (h2 : (x1 ≠ (0 : Nat))) : ((x0 + (1 : Nat)) ≤ ((128 : Nat) - (x1 / (16 : Nat)))) := by grind
theorem om154 {x0 : Nat} (h0 : (x0 < (128 : Nat))) : ((x0 / (16 : Nat)) < (128 : Nat)) := by grind
theorem om155 {x0 : Nat} (h0 : (x0 ≠ (0 : Nat))) : ((x0 / (16 : Nat)) < x0) := by grind
theorem om156 {x0 : Nat} {x1 : Nat} (h0 : (x0 ≤ ((128 : Nat) - x1))) : (((1 : Nat) + x0) ≤ (16777216 : Nat)) := by omega
theorem om157 {x0 : Nat}  : (((((x0 % (16 : Nat)) : Nat) : Int) + (1 : Int)) = ((((x0 % (16 : Nat)) + (1 : Nat)) : Nat) : Int)) := Int.natCast_add _ _
theorem om158 {x0 : Nat} (h0 : (¬ (x0 = (0 : Nat)))) : (x0 ≠ (0 : Nat)) := by omega
theorem om159 {x0 : Nat} (h0 : (¬ (x0 < (16 : Nat)))) : (¬ ((x0 / (16 : Nat)) = (0 : Nat))) := by simp +arith [*]
theorem om160 {x0 : Nat} (h0 : (x0 < (16 : Nat))) : ((x0 / (16 : Nat)) = (0 : Nat)) := by simp_all
theorem om161 {x0 : Nat} {x1 : Nat} {x2 : Nat} {x3 : Nat} (h0 : (x2 = (x3 + (1 : Nat)))) (h1 : (x1 = (x3 + (1 : Nat)))) (h2 : (x0 < x2)) : (x0 < x1) := by simp_all
theorem om162 {x0 : Nat} {x1 : Nat} (h0 : (x1 ≤ (64 : Nat))) (h1 : (x0 = x1)) : (x0 ≤ ((2 : Nat) ^ (24 : Nat))) := by lia
theorem om163 {x0 : Nat} {x1 : Nat} {x2 : Nat} (h0 : (x0 ≤ x2)) (h1 : (x1 = (x2 + (1 : Nat)))) : (x0 < x1) := by simp +arith [*]
theorem om164 {x0 : Nat} {x1 : Nat} {x2 : Nat} (h0 : (x1 = (x2 + (1 : Nat)))) (h1 : (x0 ≤ x2)) : (x0 < x1) := by simp +arith [*]
theorem om165 {x0 : Nat}  : ((((x0 % (16 : Nat)) : Nat) : Int) < ((2 : Int) ^ (62 : Nat))) := by grind
theorem om166 {x0 : Nat}  : ((((x0 % (16 : Nat)) : Nat) : Int) < (((16 : Nat) : Nat) : Int)) := by grind
theorem om167 {x0 : Nat}  : ((0 : Int) ≤ (((x0 % (16 : Nat)) : Nat) : Int)) := Int.natCast_nonneg _
theorem om168 {x0 : Nat} (h0 : (x0 < (64 : Nat))) : ((((x0 / (16 : Nat)) : Nat) : Int) < ((2 : Int) ^ (62 : Nat))) := by grind
theorem om169 {x0 : Nat} (h0 : (x0 < (64 : Nat))) : ((((x0 / (16 : Nat)) : Nat) : Int) < (((4 : Nat) : Nat) : Int)) := by grind
theorem om170 {x0 : Nat}  : ((0 : Int) ≤ (((x0 / (16 : Nat)) : Nat) : Int)) := Int.natCast_nonneg _
theorem om171 {x0 : Nat} {x1 : Nat} (h0 : (x0 ≤ ((0 : Nat) + x1))) (h1 : (x1 ≤ (64 : Nat))) : (x0 ≤ (64 : Nat)) := by lia
theorem om172 {x0 : Nat} {x1 : Nat} (h0 : (x1 ≤ (64 : Nat))) : ((min x0 x1) ≤ (64 : Nat)) := by grind
theorem om173 {x0 : Nat} (h0 : (x0 ≤ (6 : Nat))) : ((x0 + (1 : Nat)) ≤ ((2 : Nat) ^ (24 : Nat))) := Nat.lt_of_le_of_lt h0 (by decide)
theorem om174 {x0 : Nat}  : ((Int.toNat ((((x0 : Nat) : Int) + (1 : Int)) - (0 : Int))) = (x0 + (1 : Nat))) := by rfl
theorem om175 {x0 : Nat}  : ((0 : Int) ≤ (((x0 : Nat) : Int) + (1 : Int))) := Int.natCast_nonneg _
theorem om176 {x0 : Nat} (h0 : (x0 ≤ (6 : Nat))) : ((((x0 : Nat) : Int) + (1 : Int)) < ((2 : Int) ^ (62 : Nat))) := by lia
theorem om177 {x0 : Nat} {x1 : Nat} (h0 : (x0 ≤ x1)) : ((x0 + (1 : Nat)) ≤ (x1 + (1 : Nat))) := Nat.lt_succ_of_le h0
theorem om178 {x0 : Nat} (h0 : (¬ (x0 = (0 : Nat)))) : (¬ (x0 = (0 : Nat))) := by omega
theorem om179 {x0 : Nat} {x1 : Nat} {x2 : Nat} (h0 : (x1 ≤ (6 : Nat))) (h1 : (x2 ≤ (6 : Nat))) (h2 : (((x0 : Nat) : Int) ≤ ((((x2 + x1) - (1 : Nat)) : Nat) : Int))) : (((x0 : Nat) : Int) ≤ ((2 : Int) ^ (24 : Nat))) := by omega
theorem om180 {x0 : Nat} {x1 : Nat} (h0 : (x1 ≠ (0 : Nat))) : (((((x0 : Nat) : Int) + ((x1 : Nat) : Int)) - (1 : Int)) = ((((x0 + x1) - (1 : Nat)) : Nat) : Int)) := by grind
theorem om181 {x0 : Nat} (h0 : (x0 ≠ (0 : Nat))) : (((x0 : Nat) : Int) ≠ (0 : Int)) := by simp +arith [*]
theorem om182 {x0 : Nat} (h0 : (¬ (((x0 : Nat) : Int) = (127 : Int)))) : (¬ (x0 = (127 : Nat))) := by grind
theorem om183 {x0 : Nat} (h0 : (((x0 : Nat) : Int) = (127 : Int))) : (x0 = (127 : Nat)) := by rcases h0 with rfl | rfl <;> decide
theorem om184 {x0 : Nat} (h0 : (¬ (x0 ≤ (1 : Nat)))) : (¬ (((x0 : Nat) : Int) ≤ (1 : Int))) := by lia
theorem om185 {x0 : Nat} (h0 : (x0 ≤ (1 : Nat))) : (((x0 : Nat) : Int) ≤ (1 : Int)) := Int.ofNat_le.mpr h0
theorem om186 {x0 : Nat} {x1 : Nat} {x2 : Nat} (h0 : (x1 ≤ (200 : Nat))) (h1 : (x2 ≤ ((0 : Nat) + x1))) (h2 : (x0 = x2)) : (x0 ≤ ((2 : Nat) ^ (24 : Nat))) := by lia
theorem om187 {x0 : Nat} {x1 : Nat} {x2 : Nat} (h0 : (x1 ≤ (200 : Nat))) (h1 : (x2 ≤ ((0 : Nat) + x1))) (h2 : (¬ (((x2 : Nat) : Int) ≤ ((x0 : Nat) : Int)))) : (x0 < ((2 : Nat) ^ (62 : Nat))) := by lia
theorem om188 {x0 : Nat} {x1 : Nat} (h0 : (¬ (((x1 : Nat) : Int) ≤ ((x0 : Nat) : Int)))) : (¬ (x0 ≥ x1)) := by simp_all
theorem om189 {x0 : Nat} {x1 : Nat} (h0 : (x1 ≤ (200 : Nat))) (h1 : (x0 ≤ ((0 : Nat) + x1))) : (x0 < ((2 : Nat) ^ (62 : Nat))) := by lia
theorem om190 {x0 : Nat} {x1 : Nat} (h0 : (((((x0 : Nat) : Int) - ((x1 : Nat) : Int)) + (1 : Int)) = ((((x0 - x1) + (1 : Nat)) : Nat) : Int))) : (x0 ≥ x1) := by lia
theorem om191 {x0 : Nat} {x1 : Nat} {x2 : Nat} {x3 : Nat} (h0 : (x3 ≤ (200 : Nat))) (h1 : (x1 ≤ ((0 : Nat) + x3))) (h2 : (x0 = x2)) (h3 : (((((x1 : Nat) : Int) - ((x2 : Nat) : Int)) + (1 : Int)) = ((((x1 - x2) + (1 : Nat)) : Nat) : Int))) : ((x0 + ((x1 - x2) + (1 : Nat))) ≤ ((2 : Nat) ^ (24 : Nat))) := by grind
theorem om192 {x0 : Nat} {x1 : Nat} {x2 : Nat} (h0 : (x2 ≤ (200 : Nat))) (h1 : (x0 ≤ ((0 : Nat) + x2))) : (((((x0 - x1) + (1 : Nat)) : Nat) : Int) ≤ ((2 : Int) ^ (24 : Nat))) := by grind
theorem om193 {x0 : Nat} {x1 : Nat} (h0 : (((x1 : Nat) : Int) ≤ ((x0 : Nat) : Int))) : (((((x0 : Nat) : Int) - ((x1 : Nat) : Int)) + (1 : Int)) = ((((x0 - x1) + (1 : Nat)) : Nat) : Int)) := by grind
theorem om194 {x0 : Nat} {x1 : Nat} (h0 : (x1 ≤ (200 : Nat))) : ((min x0 x1) ≤ (200 : Nat)) := by grind
theorem om195 {x0 : Nat} {x1 : Nat}  : (((x0 + (1 : Nat)) + x1) = (x0 + (x1 + (1 : Nat)))) := by simp +arith at *
theorem om196 {x0 : Nat} {x1 : Nat}  : ((x0 < (x1 + ((x0 - x1) + (1 : Nat)))) ∧ ((x1 + ((x0 - x1) + (1 : Nat))) ≤ ((x1 + x0) + (1 : Nat)))) := by omega
theorem om197 {x0 : Nat} {x1 : Nat} {x2 : Nat} (h0 : (x2 < ((2 : Nat) ^ (20 : Nat)))) (h1 : (x1 < (x2 - x0))) : ((((x0 + x1) : Nat) : Int) < ((2 : Int) ^ (64 : Nat))) := by omega
theorem om198 {x0 : Nat} {x1 : Nat} {x2 : Nat} (h0 : (x2 < ((2 : Nat) ^ (20 : Nat)))) (h1 : (x1 < (x2 - x0))) : ((x0 + x1) < ((2 : Nat) ^ (62 : Nat))) := by omega
theorem om199 {x0 : Nat} {x1 : Nat} {x2 : Nat} (h0 : (x1 < (x2 - x0))) : ((x0 + x1) < x2) := by omega
theorem om200 {x0 : Nat} {x1 : Nat}  : ((Int.toNat (((x0 : Nat) : Int) - ((x1 : Nat) : Int))) = (x0 - x1)) := by simp_all
theorem om201 {x0 : Nat} (h0 : (x0 < ((2 : Nat) ^ (20 : Nat)))) : (((x0 : Nat) : Int) < ((2 : Int) ^ (62 : Nat))) := Int.ofNat_lt.mpr (Nat.lt_of_lt_of_le h0 (by decide))
theorem om202 {x0 : Nat} (h0 : (x0 < ((2 : Nat) ^ (20 : Nat)))) : (x0 < ((2 : Nat) ^ (62 : Nat))) := Nat.lt_of_lt_of_le h0 (by decide)
theorem om203 {x0 : Nat} (h0 : (x0 < ((2 : Nat) ^ (20 : Nat)))) : (((x0 : Nat) : Int) < ((2 : Int) ^ (64 : Nat))) := Int.ofNat_lt.mpr (Nat.lt_of_lt_of_le h0 (by decide))
theorem om204 {x0 : Nat}  : ((-((2 : Int) ^ (64 : Nat))) < ((x0 : Nat) : Int)) := Int.natCast_nonneg _
theorem om205 {x0 : Nat} {x1 : Nat}  : ((max (((x0 : Nat) : Int) - (1 : Int)) ((x1 : Nat) : Int)) = (((max (x0 - (1 : Nat)) x1) : Nat) : Int)) := by grind
theorem om206 {x0 : Nat} {x1 : Nat} (h0 : (¬ (x0 ≤ x1))) : (¬ (((x0 : Nat) : Int) ≤ ((x1 : Nat) : Int))) := by simp +arith [*]
theorem om207 {x0 : Nat} {x1 : Nat} (h0 : (x0 ≤ x1)) : (((x0 : Nat) : Int) ≤ ((x1 : Nat) : Int)) := Int.ofNat_le.mpr h0
theorem om208 {x0 : Nat} {x1 : Nat} (h0 : (¬ (((x1 : Nat) : Int) ≤ ((x0 : Nat) : Int)))) : (x0 < x1) := by simp_all
theorem om209 {x0 : Nat} {x1 : Nat} (h0 : (((x0 : Nat) : Int) ≤ ((x1 : Nat) : Int))) : (x0 ≤ x1) := Int.ofNat_le.mp h0
theorem om210 {x0 : Nat} {x1 : Nat} (h0 : (x1 < ((2 : Nat) ^ (20 : Nat)))) (h1 : (x0 < (x1 - (1 : Nat)))) : ((x0 + (2 : Nat)) < ((2 : Nat) ^ (20 : Nat))) := by omega
theorem om211 {x0 : Nat}  : ((x0 + (2 : Nat)) ≠ (0 : Nat)) := by grind
theorem om212 {x0 : Nat} (h0 : (x0 < ((2 : Nat) ^ (19 : Nat)))) : (x0 < ((2 : Nat) ^ (20 : Nat))) := Nat.lt_of_lt_of_le h0 (by decide)
theorem om213 {x0 : Nat}  : (((2 : Int) + ((x0 : Nat) : Int)) = (((x0 + (2 : Nat)) : Nat) : Int)) := by simp +arith at *
theorem om214 {x0 : Nat}  : ((Int.toNat ((((x0 : Nat) : Int) + (1 : Int)) - (2 : Int))) = (x0 - (1 : Nat))) := by lia
theorem om215 {x0 : Nat} (h0 : (x0 < ((2 : Nat) ^ (20 : Nat)))) : ((((x0 : Nat) : Int) + (1 : Int)) < ((2 : Int) ^ (62 : Nat))) := by lia
theorem om216 : ((2 : Int) < ((2 : Int) ^ (62 : Nat))) := Int.natCast_nonneg _
theorem om217 : ((0 : Int) ≤ (2 : Int)) := Int.natCast_nonneg _
theorem om218 {x0 : Nat} {x1 : Nat}  : ((1 : Nat) ≤ ((max x0 x1) + (1 : Nat))) := by simp_all
theorem om219 {x0 : Nat} {x1 : Nat} {x2 : Nat} {x3 : Nat} (h0 : (x1 < ((2 : Nat) ^ (19 : Nat)))) (h1 : (x0 < ((2 : Nat) ^ (19 : Nat)))) (h2 : (x3 < ((2 : Nat) ^ (19 : Nat)))) (h3 : (x2 < ((2 : Nat) ^ (19 : Nat)))) : (((max (max (x0 - (1 : Nat)) x1) (max (x2 - (1 : Nat)) x3)) + (1 : Nat)) < ((2 : Nat) ^ (20 : Nat))) := by grind
theorem om220 {x0 : Nat} {x1 : Nat}  : (((max ((x0 : Nat) : Int) ((x1 : Nat) : Int)) + (1 : Int)) = ((((max x0 x1) + (1 : Nat)) : Nat) : Int)) := by omega
theorem om221 {x0 : Nat} {x1 : Nat} (h0 : (((x1 : Nat) : Int) ≤ ((x0 : Nat) : Int))) : (x0 ≥ x1) := Int.ofNat_le.mp h0
theorem om222 {x0 : Nat} (h0 : (x0 ≤ (1 : Nat))) : (((max (x0 + (1 : Nat)) (max (0 : Nat) (0 : Nat))) + (1 : Nat)) ≤ (64 : Nat)) := by grind
theorem om223 {x0 : Nat} {x1 : Nat} (h0 : (x1 < ((2 : Nat) ^ (20 : Nat)))) (h1 : (x0 < x1)) : ((x0 + (1 : Nat)) < ((2 : Nat) ^ (20 : Nat))) := Nat.lt_of_le_of_lt h1 h0
theorem om224 {x0 : Nat}  : ((x0 + (1 : Nat)) ≠ (0 : Nat)) := by simp_all
theorem om225 {x0 : Nat}  : (((1 : Int) + ((x0 : Nat) : Int)) = (((x0 + (1 : Nat)) : Nat) : Int)) := by simp +arith at *
theorem om226 {x0 : Nat}  : ((Int.toNat ((((x0 : Nat) : Int) + (1 : Int)) - (1 : Int))) = x0) := by simp_all
theorem om227 : ((1 : Int) < ((2 : Int) ^ (62 : Nat))) := Int.natCast_nonneg _
theorem om228 : ((0 : Int) ≤ (1 : Int)) := Int.natCast_nonneg _
theorem om229 {x0 : Nat} (h0 : (x0 ≤ (200 : Nat))) : (x0 ≤ ((2 : Nat) ^ (24 : Nat))) := Nat.le_trans h0 (by decide)
theorem om230 {x0 : Nat} (h0 : (x0 < (100 : Nat))) : (((x0 + (0 : Nat)) + ((0 : Nat) + (1 : Nat))) ≤ (1048576 : Nat)) := Nat.lt_of_lt_of_le h0 (by decide)
theorem om231 {x0 : Nat} {x1 : Nat} {x2 : Nat} (h0 : (x0 ≤ (min x1 x2))) : (x0 ≤ x1) := by grind
theorem om232 {x0 : Nat} (h0 : ((x0 = (1 : Nat)) ∨ (x0 = (2 : Nat)))) (h1 : (¬ ((1 : Int) < ((x0 : Nat) : Int)))) : (x0 = (1 : Nat)) := by rcases h0 with h0 | h0 <;> subst h0 <;> simp_all
theorem om233 {x0 : Nat} (h0 : ((x0 = (1 : Nat)) ∨ (x0 = (2 : Nat)))) (h1 : ((1 : Int) < ((x0 : Nat) : Int))) : (x0 = (2 : Nat)) := by rcases h0 with h0 | h0 <;> subst h0 <;> simp_all
theorem om234 {x0 : Nat} (h0 : ((x0 = (1 : Nat)) ∨ (x0 = (2 : Nat)))) : (x0 ≤ ((2 : Nat) ^ (24 : Nat))) := by rcases h0 with h0 | h0 <;> subst h0 <;> simp_all
theorem om235 {x0 : Nat} (h0 : (x0 ≤ (20 : Nat))) : ((x0 + (1 : Nat)) ≤ ((2 : Nat) ^ (24 : Nat))) := Nat.lt_of_le_of_lt h0 (by decide)
theorem om236 {x0 : Nat} {x1 : Nat} (h0 : ((x1 = (1 : Nat)) ∨ (x1 = (2 : Nat)))) (h1 : (x0 = x1)) : (x0 < ((2 : Nat) ^ (62 : Nat))) := by rcases h0 with h0 | h0 <;> subst h0 <;> simp_all
theorem om237 {x0 : Nat} (h0 : ((x0 ≠ (0 : Nat)) ∧ (x0 ≠ (127 : Nat)))) : (((x0 : Nat) : Int) ≠ (0 : Int)) := by simp +arith [*]
theorem om238 {x0 : Nat} (h0 : ((x0 ≠ (0 : Nat)) ∧ (x0 ≠ (127 : Nat)))) : (((x0 : Nat) : Int) ≠ (127 : Int)) := by grind
theorem om239 {x0 : Nat}  : ((0 : Nat) ≤ x0) := by simp_all
theorem om240 {x0 : Nat} (h0 : (¬ (x0 = (0 : Nat)))) : (((x0 : Nat) : Int) ≠ (0 : Int)) := by simp_all
theorem om241 : ((6 : Nat) ≤ (6 : Nat)) := by simp_all
theorem om242 {x0 : Nat} (h0 : (x0 = (0 : Nat))) : (((x0 : Nat) : Int) = (0 : Int)) := by subst h0; rfl
theorem om243 {x0 : Nat} (h0 : (¬ (x0 = (127 : Nat)))) : (((x0 : Nat) : Int) ≠ (127 : Int)) := by grind
theorem om244 {x0 : Nat} (h0 : (x0 = (127 : Nat))) : (((x0 : Nat) : Int) = (127 : Int)) := by subst h0; rfl
theorem om245 {x0 : Nat} (h0 : (x0 = (2 : Nat))) : ((1 : Nat) ≤ x0) := by subst h0; simp
theorem om246 {x0 : Nat} (h0 : (x0 = (2 : Nat))) : (x0 ≤ (2 : Nat)) := by subst h0; simp
theorem om247 {x0 : Nat} (h0 : (x0 = (2 : Nat))) : ((2 : Nat) ≤ x0) := by subst h0; simp
theorem om248 {x0 : Nat} {x1 : Nat} (h0 : (x0 ≤ x1)) (h1 : (x0 ≥ x1)) : (x0 = x1) := by lia
theorem om249 {x0 : Nat} (h0 : ((x0 + (1 : Nat)) ≤ (6 : Nat))) : (x0 ≤ (6 : Nat)) := Nat.le_of_lt h0
theorem om250 {x0 : Nat} (h0 : (x0 ≤ (6 : Nat))) : (((8 : Nat) - ((8 : Nat) - x0)) = x0) := by omega
theorem om251 {x0 : Nat} {x1 : Nat} (h0 : (((8 : Nat) - x0) = (x1 + (1 : Nat)))) : (((8 : Nat) - (x0 + (1 : Nat))) = x1) := by omega
theorem om252 {x0 : Nat} {x1 : Nat} {x2 : Nat} (h0 : (¬ (((x1 : Nat) : Int) ≤ ((x2 : Nat) : Int)))) (h1 : ((x0 + (1 : Nat)) ≤ x2)) (h2 : (x1 ≤ (6 : Nat))) : (((8 : Nat) - x0) = (((7 : Nat) - x0) + (1 : Nat))) := by grind
theorem om253 {x0 : Nat} {x1 : Nat} {x2 : Nat} (h0 : (¬ (((x1 : Nat) : Int) ≤ ((x2 : Nat) : Int)))) (h1 : ((x0 + (1 : Nat)) ≤ x2)) (h2 : (x1 ≤ (6 : Nat))) : ((0 : Nat) < (((8 : Nat) - x0) - (1 : Nat))) := by omega
theorem om254 {x0 : Nat} {x1 : Nat} {x2 : Nat} (h0 : (¬ (((x1 : Nat) : Int) ≤ ((x2 : Nat) : Int)))) (h1 : ((x0 + (1 : Nat)) ≤ x2)) (h2 : (x1 ≤ (6 : Nat))) : ((x0 + (1 : Nat)) ≤ (6 : Nat)) := by lia
theorem om255 {x0 : Nat} {x1 : Nat} {x2 : Nat} (h0 : (¬ (((x1 : Nat) : Int) ≤ ((x2 : Nat) : Int)))) (h1 : ((x0 + (1 : Nat)) ≤ x2)) (h2 : (x1 ≤ (6 : Nat))) : (((8 : Nat) - (x0 + (1 : Nat))) < ((8 : Nat) - x0)) := by grind
theorem om256 {x0 : Nat} (h0 : ((x0 = (5 : Nat)) ∨ (x0 = (6 : Nat)))) : (x0 ≤ (6 : Nat)) := by rcases h0 with h0 | h0 <;> subst h0 <;> simp_all
theorem om257 {x0 : Nat} (h0 : (x0 ≤ (6 : Nat))) : ((x0 + (1 : Nat)) < (8 : Nat)) := by simp +arith [*]
theorem om258 {x0 : Nat} {x1 : Nat} (h0 : (x0 = x1)) (h1 : (((7 : Nat) - (((8 : Nat) - x1) - (1 : Nat))) = x1)) : (x0 ≤ ((2 : Nat) ^ (24 : Nat))) := by omega
theorem om259 {x0 : Nat} (h0 : (x0 ≤ (6 : Nat))) : (((7 : Nat) - (((8 : Nat) - x0) - (1 : Nat))) = x0) := by omega
theorem om260 {x0 : Nat} (h0 : (x0 ≤ (6 : Nat))) : (x0 < (8 : Nat)) := Nat.lt_of_le_of_lt h0 (by decide)
theorem om261 {x0 : Nat} (h0 : ((x0 = (2 : Nat)) ∨ ((x0 = (3 : Nat)) ∨ ((x0 = (4 : Nat)) ∨ ((x0 = (5 : Nat)) ∨ (x0 = (6 : Nat))))))) : ((x0 ≠ (0 : Nat)) ∧ (x0 ≠ (127 : Nat))) := by lia
theorem om262 {x0 : Nat} {x1 : Nat} {x2 : Nat} (h0 : (x0 ≤ x1)) (h1 : ((1 : Nat) ≤ x2)) : ((x0 + (1 : Nat)) ≤ (x1 + (x2 + (0 : Nat)))) := by grind
theorem om263 {x0 : Nat} (h0 : (x0 ≠ (0 : Nat))) : ((1 : Nat) ≤ x0) := by grind
theorem om264 {x0 : Nat} {x1 : Nat} {x2 : Nat} {x3 : Nat} (h0 : (x2 ≤ x0)) (h1 : (x3 ≤ x1)) (h2 : (((x0 - x2) = (x1 - x3)) ∧ (x2 = x3))) : ((x0 = x1) ∧ (x2 = x3)) := by grind
theorem om265 {x0 : Nat} {x1 : Nat} (h0 : (x0 ≤ x1)) (h1 : (¬ (x0 = (0 : Nat)))) (h2 : (x1 = (0 : Nat))) : False := by simp_all
theorem om266 {x0 : Nat} {x1 : Nat} {x2 : Nat} {x3 : Nat} (h0 : (x2 = (0 : Nat))) (h1 : (x3 = (0 : Nat))) (h2 : (x0 = x1)) : ((x0 = x1) ∧ (x2 = x3)) := by simp_all
theorem om267 {x0 : Nat} {x1 : Nat} (h0 : (x1 ≤ x0)) (h1 : (x1 ≠ (0 : Nat))) : (x0 ≠ (0 : Nat)) := by grind
theorem om268 {x0 : Nat} (h0 : ((1 : Nat) ≤ x0)) : (x0 ≠ (0 : Nat)) := by grind
theorem om269 {x0 : Nat} {x1 : Nat} (h0 : (¬ (x0 < x1))) : (¬ (((2 : Nat) * x0) < ((2 : Nat) * x1))) := by simp +arith [*]
theorem om270 {x0 : Nat} {x1 : Nat} (h0 : (x0 < x1)) : (((2 : Nat) * x0) < ((2 : Nat) * x1)) := by simp_all
theorem om271 {x0 : Nat} {x1 : Nat} {x2 : Nat} {x3 : Nat} (h0 : (¬ ((x0 + x2) ≥ (x1 + x3)))) (h1 : (x3 = (0 : Nat))) : (x0 < x1) := by grind
theorem om272 {x0 : Nat} {x1 : Nat} (h0 : (x0 ≤ x1)) (h1 : (x1 = (0 : Nat))) : (x0 = (0 : Nat)) := by simp_all
theorem om273 {x0 : Nat} {x1 : Nat} {x2 : Nat} {x3 : Nat} (h0 : (x2 ≤ x3)) (h1 : ((x0 + x2) ≥ (x1 + x3))) : (¬ (x0 < x1)) := by grind
theorem om274 {x0 : Nat} {x1 : Nat} (h0 : (¬ (x0 = x1))) : (¬ (((2 : Nat) * x0) = ((2 : Nat) * x1))) := by grind
theorem om275 {x0 : Nat} {x1 : Nat} (h0 : (x0 ≤ x1)) (h1 : (¬ (x1 = x0))) : (¬ (((2 : Nat) * x0) ≥ ((2 : Nat) * x1))) := by grind
theorem om276 {x0 : Nat} {x1 : Nat} (h0 : (x1 = x0)) : (((2 : Nat) * x0) ≥ ((2 : Nat) * x1)) := by subst h0; simp
theorem om277 {x0 : Nat} {x1 : Nat} {x2 : Nat} {x3 : Nat} (h0 : (x0 ≤ x2)) (h1 : (x1 ≤ x3)) (h2 : (¬ ((x2 + x3) = (x0 + x1)))) : (¬ ((x0 + x1) ≥ (x2 + x3))) := by grind
theorem om278 {x0 : Nat} {x1 : Nat} {x2 : Nat} {x3 : Nat} (h0 : ((x2 + x3) = (x0 + x1))) : ((x0 + x1) ≥ (x2 + x3)) := by simp_all
theorem om279 {x0 : Nat} {x1 : Nat} {x2 : Nat} {x3 : Nat} (h0 : (x2 ≤ x0)) (h1 : (x3 ≤ x1)) : ((x0 + x1) ≥ (x2 + x3)) := by grind
theorem om280 {x0 : Nat} {x1 : Nat} (h0 : (x1 ≤ x0)) : (((2 : Nat) * x0) ≥ ((2 : Nat) * x1)) := by grind
theorem om281 {x0 : Nat} {x1 : Nat}  : (((max x0 x1) + (1 : Nat)) = ((max x1 x0) + (1 : Nat))) := by grind
theorem om282 {x0 : Nat}  : (((0 : Nat) + ((2 : Nat) * ((0 : Nat) + x0))) = ((2 : Nat) * x0)) := by simp_all
theorem om283 {x0 : Nat}  : (((0 : Nat) + ((1 : Nat) * ((0 : Nat) + x0))) = (x0 + (0 : Nat))) := by simp_all
theorem om284 {x0 : Nat} {x1 : Nat} (h0 : (x0 < (100 : Nat))) : ((x0 - x1) < ((2 : Nat) ^ (62 : Nat))) := by omega
theorem om285 {x0 : Nat} {x1 : Nat} (h0 : (x1 ≤ x0)) : ((((x0 : Nat) : Int) - ((x1 : Nat) : Int)) = (((x0 - x1) : Nat) : Int)) := by grind
theorem om286 {x0 : Nat} (h0 : (x0 ≤ (2 : Nat))) : (x0 < (100 : Nat)) := Nat.lt_of_le_of_lt h0 (by decide)
theorem om287 {x0 : Nat} {x1 : Nat} (h0 : (¬ (((x0 : Nat) : Int) = ((x1 : Nat) : Int)))) : (x0 ≠ x1) := by grind
theorem om288 {x0 : Nat} {x1 : Nat} (h0 : (((x0 : Nat) : Int) = ((x1 : Nat) : Int))) : (x0 = x1) := by grind
theorem om289 {x0 : Nat} (h0 : (x0 ≤ (2 : Nat))) : (x0 ≤ ((2 : Nat) ^ (24 : Nat))) := Nat.le_trans h0 (by decide)
theorem om290 {x0 : Nat} {x1 : Nat} {x2 : Nat} {x3 : Nat} (h0 : (x3 ≤ x1)) : (¬ (((((x0 + x1) : Nat) : Int) - ((x0 : Nat) : Int)) < ((((x2 + x3) : Nat) : Int) - ((x2 : Nat) : Int)))) := by lia
theorem om291 {x0 : Nat} (h0 : (x0 ≤ (1 : Nat))) : ((x0 + (1 : Nat)) ≤ (64 : Nat)) := Nat.lt_of_le_of_lt h0 (by decide)
theorem om292 {x0 : Nat}  : (((2 : Int) * ((x0 : Nat) : Int)) = ((((2 : Nat) * x0) : Nat) : Int)) := by rfl
theorem om293 {x0 : Nat} {x1 : Nat} (h0 : (x0 = x1)) (h1 : (x1 ≤ (64 : Nat))) : (x0 < ((2 : Nat) ^ (62 : Nat))) := by lia
theorem om294 {x0 : Nat} {x1 : Nat} (h0 : (x0 ≤ x1)) (h1 : (x1 < (100 : Nat))) : ((x0 + (1 : Nat)) < ((2 : Nat) ^ (62 : Nat))) := by lia
theorem om295 {x0 : Nat} {x1 : Nat} (h0 : (x0 ≤ x1)) (h1 : (x1 < (100 : Nat))) : (x0 < ((2 : Nat) ^ (62 : Nat))) := Nat.lt_of_le_of_lt h0 (Nat.lt_of_lt_of_le h1 (by decide))
theorem om296 {x0 : Nat} (h0 : (x0 ≤ (64 : Nat))) : (x0 < ((2 : Nat) ^ (62 : Nat))) := Nat.lt_of_le_of_lt h0 (by decide)
theorem om297 {x0 : Nat} {x1 : Nat} {x2 : Nat} (h0 : (x1 ≤ ((2 : Nat) * x2))) (h1 : (x0 ≤ (2 : Nat))) : ((x0 + x1) ≤ ((2 : Nat) * (x2 + (1 : Nat)))) := by grind
theorem om298 {x0 : Nat} {x1 : Nat} (h0 : (x1 ≤ x0)) : ((((x0 - x1) + (1 : Nat)) = ((x0 + (1 : Nat)) - x1)) ∧ (((x0 + x1) + (1 : Nat)) = ((x0 + (1 : Nat)) + x1))) := by grind
theorem om299 {x0 : Nat} {x1 : Nat}  : ((((x0 + x1) + (1 : Nat)) + (1 : Nat)) = ((x0 + (1 : Nat)) + (x1 + (1 : Nat)))) := by simp +arith at *
theorem om300 {x0 : Nat} {x1 : Nat} (h0 : (((x0 + ((8 : Nat) * (x1 + (4 : Nat)))) + (100 : Nat)) < (9900 : Nat))) : (((x0 + (1 : Nat)) + (0 : Nat)) < (9900 : Nat)) := by grind
theorem om301 {x0 : Nat}  : (x0 ≤ x0) := by simp_all
theorem om302 {x0 : Nat} (h0 : (x0 < (10 : Nat))) : (x0 < (100 : Nat)) := Nat.lt_of_lt_of_le h0 (by decide)
theorem om303 {x0 : Nat} {x1 : Nat} (h0 : ((2 : Nat) < x1)) (h1 : (x0 < (3 : Nat))) : (x0 ≤ x1) := by lia
theorem om304 {x0 : Nat} {x1 : Nat} {x2 : Nat} (h0 : (x2 = (x0 + (1 : Nat)))) : ((x0 - x1) < x2) := by simp +arith [*]
theorem om305 {x0 : Nat} {x1 : Nat} {x2 : Nat} (h0 : (x1 = (x2 + (1 : Nat)))) (h1 : ((2 : Nat) < x2)) (h2 : (x0 < (3 : Nat))) : ((x0 + (1 : Nat)) < x1) := by lia
theorem om306 {x0 : Nat} {x1 : Nat} {x2 : Nat} (h0 : (x1 = (x2 + (1 : Nat)))) (h1 : ((2 : Nat) < x2)) (h2 : (x0 < (3 : Nat))) : (x0 < x1) := by lia
theorem om307 : ((3 : Nat) ≤ ((2 : Nat) ^ (24 : Nat))) := by simp_all
theorem om308 : ((0 : Int) ≤ (3 : Int)) := Int.natCast_nonneg _
theorem om309 : ((3 : Int) < ((2 : Int) ^ (62 : Nat))) := Int.natCast_nonneg _
theorem om310 {x0 : Nat} {x1 : Nat} {x2 : Nat} (h0 : (x0 = x2)) (h1 : (x2 < x1)) : ((x0 + (1 : Nat)) ≤ x1) := by subst h0; assumption
theorem om311 {x0 : Nat} {x1 : Nat} (h0 : (x1 ≤ (64 : Nat))) (h1 : (x0 ≤ ((2 : Nat) * x1))) : (x0 ≤ (200 : Nat)) := by grind
theorem om312 {x0 : Nat} (h0 : (x0 ≤ (64 : Nat))) : (x0 ≤ ((2 : Nat) ^ (24 : Nat))) := Nat.le_trans h0 (by decide)
theorem om313 {x0 : Nat} {x1 : Nat} (h0 : (x0 = (x1 + (1 : Nat)))) (h1 : (x1 < (10 : Nat))) : (x0 ≤ ((2 : Nat) ^ (24 : Nat))) := by subst h0; exact Nat.lt_of_lt_of_le h1 (by decide)
theorem om314 {x0 : Nat} {x1 : Nat} (h0 : (x0 = (x1 + (1 : Nat)))) : (x0 ≤ (x1 + (1 : Nat))) := by subst h0; simp
theorem om315 {x0 : Nat} {x1 : Nat} {x2 : Nat} (h0 : (x1 = (x2 + (1 : Nat)))) (h1 : (x0 < (x2 + (1 : Nat)))) : (x0 < x1) := by subst h0; assumption
theorem om316 {x0 : Nat} {x1 : Nat} (h0 : (x0 < (x1 + (1 : Nat)))) : (x0 ≤ x1) := Nat.le_of_lt_succ h0
theorem om317 {x0 : Nat} {x1 : Nat} (h0 : (x1 ≤ (6 : Nat))) (h1 : (x0 < (x1 + (1 : Nat)))) : (x0 < (7 : Nat)) := by lia
theorem om318 {x0 : Nat} {x1 : Nat} (h0 : (x1 ≤ (6 : Nat))) (h1 : (x0 < (x1 + (1 : Nat)))) : (((x0 : Nat) : Int) < ((2 : Int) ^ (62 : Nat))) := by lia
theorem om319 {x0 : Nat} {x1 : Nat} (h0 : (x1 ≤ (6 : Nat))) (h1 : (x0 < (x1 + (1 : Nat)))) : (((x0 : Nat) : Int) < (((7 : Nat) : Nat) : Int)) := by lia
theorem om320 {x0 : Nat} (h0 : (x0 ≤ (2 : Nat))) : ((x0 + (1 : Nat)) ≤ (64 : Nat)) := Nat.lt_of_le_of_lt h0 (by decide)
theorem om321 {x0 : Nat} (h0 : (x0 ≤ (1 : Nat))) : ((x0 + (1 : Nat)) ≤ (2 : Nat)) := Nat.lt_succ_of_le h0
theorem om322 {x0 : Nat} {x1 : Nat} (h0 : (x1 ≤ (6 : Nat))) (h1 : (x0 ≤ x1)) : (x0 ≤ (6 : Nat)) := Nat.le_trans h1 h0
theorem om323 {x0 : Nat} (h0 : (x0 ≤ (64 : Nat))) : (x0 ≤ (200 : Nat)) := Nat.le_trans h0 (by decide)
theorem om324 {x0 : Nat} {x1 : Nat} (h0 : (x1 ≤ (64 : Nat))) : ((min x0 x1) ≤ (200 : Nat)) := by grind
theorem om325 {x0 : Nat} (h0 : (x0 < (64 : Nat))) : (((64 : Nat) + x0) < (128 : Nat)) := by lia
theorem om326 {x0 : Nat} {x1 : Nat} (h0 : (x1 ≤ (6 : Nat))) (h1 : (x0 ≤ x1)) : (((32 : Nat) + x0) < (128 : Nat)) := by lia
theorem om327 {x0 : Nat} (h0 : (¬ ((((x0 : Nat) : Int) % (2 : Int)) = (0 : Int)))) : ((x0 % (2 : Nat)) ≠ (0 : Nat)) := by grind
theorem om328 {x0 : Nat}  : (((64 : Nat) + x0) ≠ (0 : Nat)) := by grind
theorem om329 {x0 : Nat}  : (((64 : Int) + ((x0 : Nat) : Int)) = ((((64 : Nat) + x0) : Nat) : Int)) := Int.natCast_add _ _
theorem om330 {x0 : Nat}  : (((32 : Nat) + x0) ≠ (0 : Nat)) := by grind
theorem om331 {x0 : Nat}  : (((32 : Int) + ((x0 : Nat) : Int)) = ((((32 : Nat) + x0) : Nat) : Int)) := Int.natCast_add _ _
theorem om332 {x0 : Nat} (h0 : (x0 ≤ (6 : Nat))) : (x0 < (7 : Nat)) := Nat.lt_succ_of_le h0
theorem om333 {x0 : Nat} (h0 : ((x0 = (5 : Nat)) ∨ (x0 = (6 : Nat)))) : ((2 : Nat) < x0) := by rcases h0 with h0 | h0 <;> subst h0 <;> simp_all
theorem om334 {x0 : Nat} (h0 : ((x0 = (0 : Nat)) ∨ ((x0 = (127 : Nat)) ∨ ((x0 = (1 : Nat)) ∨ ((x0 = (2 : Nat)) ∨ (x0 = (3 : Nat))))))) : (x0 ≤ (127 : Nat)) := by grind
theorem om335 {x0 : Nat} (h0 : ((x0 = (2 : Nat)) ∨ ((x0 = (3 : Nat)) ∨ ((x0 = (4 : Nat)) ∨ ((x0 = (5 : Nat)) ∨ (x0 = (6 : Nat))))))) : ((x0 ≠ (0 : Nat)) ∧ (x0 ≤ (6 : Nat))) := by lia
theorem om336 {x0 : Nat} (h0 : (x0 < (5 : Nat))) : (x0 < ((2 : Nat) ^ (62 : Nat))) := Nat.lt_of_lt_of_le h0 (by decide)
theorem om337 {x0 : Nat} (h0 : (x0 = (9 : Nat))) : (x0 ≤ ((2 : Nat) ^ (24 : Nat))) := by simp_all
theorem om338 {x0 : Nat} {x1 : Nat} (h0 : (x0 < x1)) : (((x0 : Nat) : Int) < ((x1 : Nat) : Int)) := Int.ofNat_lt.mpr h0
theorem om339 {x0 : Nat} (h0 : ((x0 = (5 : Nat)) ∨ (x0 = (6 : Nat)))) : ((x0 = (5 : Nat)) ∨ (x0 = (6 : Nat))) := by omega
theorem om340 {x0 : Int} (h0 : ((0 : Int) ≤ x0)) : (x0 = (((Int.toNat x0) : Nat) : Int)) := by grind
theorem om341 {x0 : Int} (h0 : (x0 < (5 : Int))) : ((Int.toNat x0) < (5 : Nat)) := by simp_all
theorem om342 {x0 : Nat} {x1 : Int} (h0 : ((x0 = (5 : Nat)) ∨ (x0 = (6 : Nat)))) (h1 : (x1 < (4 : Int))) : (((x0 - (Int.toNat x1)) = (2 : Nat)) ∨ (((x0 - (Int.toNat x1)) = (3 : Nat)) ∨ (((x0 - (Int.toNat x1)) = (4 : Nat)) ∨ (((x0 - (Int.toNat x1)) = (5 : Nat)) ∨ ((x0 - (Int.toNat x1)) = (6 : Nat)))))) := by lia
theorem om343 {x0 : Nat} {x1 : Int} (h0 : (x1 < (4 : Int))) : (x0 ≤ ((x0 - (Int.toNat x1)) + (3 : Nat))) := by omega
theorem om344 {x0 : Nat} {x1 : Int} (h0 : ((x0 = (5 : Nat)) ∨ (x0 = (6 : Nat)))) (h1 : ((0 : Int) ≤ x1)) (h2 : (x1 < (4 : Int))) : ((((x0 : Nat) : Int) - x1) = (((x0 - (Int.toNat x1)) : Nat) : Int)) := by lia
theorem om345 {x0 : Nat} (h0 : ((0 : Nat) < x0)) : ((0 : Int) < ((x0 : Nat) : Int)) := Int.ofNat_lt.mpr h0
theorem om346 {x0 : Nat} (h0 : (x0 ≤ (2 : Nat))) : (x0 ≤ (64 : Nat)) := Nat.le_trans h0 (by decide)
theorem om347 {x0 : Nat} {x1 : Nat} (h0 : (x0 = x1)) (h1 : ((x1 = (5 : Nat)) ∨ (x1 = (6 : Nat)))) : ((0 : Nat) < x0) := by lia
theorem om348 {x0 : Nat} {x1 : Nat} (h0 : ((x1 = (5 : Nat)) ∨ (x1 = (6 : Nat)))) (h1 : (x0 < x1)) : (x0 < ((2 : Nat) ^ (62 : Nat))) := by lia
theorem om349 {x0 : Nat} (h0 : (¬ (((x0 : Nat) : Int) < (16 : Int)))) : (¬ (x0 < (16 : Nat))) := by omega
theorem om350 {x0 : Nat}  : (((((16 : Nat) * x0) : Nat) : Int) = ((16 : Int) * ((x0 : Nat) : Int))) := by rfl
theorem om351 {x0 : Nat} (h0 : (((x0 : Nat) : Int) < (16 : Int))) : (x0 < (16 : Nat)) := Int.ofNat_lt.mp h0
theorem om352 {x0 : Nat} (h0 : ((x0 = (5 : Nat)) ∨ (x0 = (6 : Nat)))) : (x0 < (64 : Nat)) := by rcases h0 with h0 | h0 <;> subst h0 <;> simp_all
theorem om353 {x0 : Nat} (h0 : ((x0 = (5 : Nat)) ∨ (x0 = (6 : Nat)))) : ((2 : Nat) ≤ x0) := by rcases h0 with h0 | h0 <;> subst h0 <;> simp_all
theorem om354 {x0 : Nat} {x1 : Nat} (h0 : ((x1 = (5 : Nat)) ∨ (x1 = (6 : Nat)))) (h1 : (x0 = x1)) : ((2 : Nat) ≤ x0) := by rcases h0 with h0 | h0 <;> subst h0 <;> simp_all
theorem om355 {x0 : Nat} (h0 : (x0 < (41 : Nat))) : (x0 < (128 : Nat)) := Nat.lt_of_lt_of_le h0 (by decide)
theorem om356 {x0 : Nat} {x1 : Nat} (h0 : ((x1 = (5 : Nat)) ∨ (x1 = (6 : Nat)))) (h1 : (x0 = x1)) : (x0 ≤ ((2 : Nat) ^ (24 : Nat))) := by rcases h0 with h0 | h0 <;> subst h0 <;> simp_all
theorem om357 {x0 : Nat} {x1 : Nat} (h0 : ((x1 = (5 : Nat)) ∨ (x1 = (6 : Nat)))) (h1 : (x0 < x1)) : (((x0 : Nat) : Int) ≤ (1000000 : Int)) := by lia
theorem om358 {x0 : Nat} (h0 : ((x0 = (5 : Nat)) ∨ (x0 = (6 : Nat)))) : (x0 ≤ ((2 : Nat) ^ (24 : Nat))) := by rcases h0 with h0 | h0 <;> subst h0 <;> simp_all
theorem om359 {x0 : Nat} (h0 : ((x0 = (5 : Nat)) ∨ (x0 = (6 : Nat)))) : (((x0 : Nat) : Int) < ((2 : Int) ^ (62 : Nat))) := by rcases h0 with h0 | h0 <;> subst h0 <;> simp_all
theorem om360 {x0 : Nat} (h0 : ((x0 = (5 : Nat)) ∨ (x0 = (6 : Nat)))) : ((min x0 ((9 : Nat) - (3 : Nat))) = x0) := by rcases h0 with rfl | rfl <;> decide
theorem om361 {x0 : Nat} {x1 : Nat} (h0 : (x1 = (9 : Nat))) (h1 : ((x0 = (5 : Nat)) ∨ (x0 = (6 : Nat)))) : (((3 : Nat) + x0) ≤ x1) := by grind
theorem om362 {x0 : Nat}  : ((3 : Nat) ≤ ((3 : Nat) + x0)) := by simp_all
theorem om363 {x0 : Nat}  : (((3 : Int) + ((x0 : Nat) : Int)) = ((((3 : Nat) + x0) : Nat) : Int)) := Int.natCast_add _ _
theorem om364 {x0 : Nat} {x1 : Nat} {x2 : Nat}  : (((min (9 : Nat) x0) + (min (x1 - x2) (((((((((((0 : Nat) + (1 : Nat)) + (1 : Nat)) + (1 : Nat)) + (1 : Nat)) + (1 : Nat)) + (1 : Nat)) + (1 : Nat)) + (1 : Nat)) + (1 : Nat)) - x2))) ≤ ((2 : Nat) ^ (24 : Nat))) := by omega
theorem om365 {x0 : Nat}  : ((min (9 : Nat) x0) < ((2 : Nat) ^ (62 : Nat))) := by lia
theorem om366 {x0 : Nat} {x1 : Nat} (h0 : (x1 < ((2 : Nat) ^ (20 : Nat)))) (h1 : (x0 = x1)) : (x0 ≤ ((2 : Nat) ^ (24 : Nat))) := by subst h1; exact Nat.le_of_lt (Nat.lt_of_lt_of_le h0 (by decide))
theorem om367 {x0 : Nat} (h0 : (¬ ((9 : Nat) ≤ x0))) : (x0 ≤ (9 : Nat)) := by lia
theorem om368 {x0 : Nat}  : ((Int.toNat (max (0 : Int) (min (9 : Int) ((x0 : Nat) : Int)))) = (min (9 : Nat) x0)) := by grind
theorem om369 {x0 : Nat} {x1 : Nat} (h0 : (x0 ≤ x1)) : ((Int.toNat (max (0 : Int) (min ((x0 : Nat) : Int) ((x1 : Nat) : Int)))) = x0) := by grind
theorem om370 {x0 : Nat} {x1 : Nat} {x2 : Nat} (h0 : (x0 ≤ x2)) (h1 : (x2 ≤ x1)) : ((Int.toNat (max (0 : Int) (min ((x0 : Nat) : Int) ((x1 : Nat) : Int)))) = x0) := by grind
theorem om371 {x0 : Nat} {x1 : Nat}  : ((x0 - x1) ≤ (x0 - x1)) := by simp_all
theorem om372 {x0 : Int} (h0 : ((0 : Int) ≤ x0)) (h1 : (x0 < (40 : Int))) : ((((1 : Int) + x0) = ((((1 : Nat) + (Int.toNat x0)) : Nat) : Int)) ∧ ((((1 : Nat) + (Int.toNat x0)) < (41 : Nat)) ∧ (((1 : Nat) + (Int.toNat x0)) ≠ (0 : Nat)))) := by lia
theorem om373 {x0 : Int} (h0 : ((0 : Int) ≤ x0)) (h1 : (x0 < (2 : Int))) : ((((5 : Int) + x0) = ((((5 : Nat) + (Int.toNat x0)) : Nat) : Int)) ∧ ((((5 : Nat) + (Int.toNat x0)) = (5 : Nat)) ∨ (((5 : Nat) + (Int.toNat x0)) = (6 : Nat)))) := by lia
theorem om374 {x0 : Nat}  : (((min (9 : Nat) x0) + ((9 : Nat) - (min (9 : Nat) x0))) = (9 : Nat)) := by lia
theorem om375 {x0 : Nat} (h0 : (x0 ≤ (63 : Nat))) : (x0 < ((2 : Nat) ^ (20 : Nat))) := Nat.lt_of_le_of_lt h0 (by decide)
theorem om376 {x0 : Nat} (h0 : (x0 = (9 : Nat))) : ((2 : Nat) < x0) := by subst h0; simp
theorem om377 {x0 : Nat} (h0 : (x0 = (9 : Nat))) : ((1 : Nat) < x0) := by subst h0; simp
theorem om378 {x0 : Nat} (h0 : (x0 = (9 : Nat))) : ((0 : Nat) < x0) := by subst h0; simp
theorem om379 {x0 : Nat} {x1 : Nat} (h0 : ((x1 = (5 : Nat)) ∨ (x1 = (6 : Nat)))) (h1 : (x0 ≤ x1)) : (x0 < (7 : Nat)) := by lia
theorem om380 {x0 : Nat} {x1 : Nat} (h0 : (x1 ≤ (64 : Nat))) (h1 : (x0 < x1)) : (x0 < (64 : Nat)) := Nat.lt_of_lt_of_le h1 h0
theorem om381 {x0 : Nat} {x1 : Nat} (h0 : ((x1 = (5 : Nat)) ∨ (x1 = (6 : Nat)))) (h1 : (x0 < x1)) : (x0 ≤ (6 : Nat)) := by lia
theorem om382 {x0 : Nat} {x1 : Nat} (h0 : (x0 ≤ x1)) : (x0 < (x1 + (1 : Nat))) := Nat.lt_succ_of_le h0
end Mine
end

section
set_option autoImplicit false
/-! plain functions: what the law's helpers reckon -/
namespace Mine
namespace P

/-- counts: k doublings -/
def cnt : Nat → List Nat
  | 0 => [0]
  | k + 1 => cnt k ++ (cnt k).map (· + 1)
theorem cnt_length (k : Nat) : (cnt k).length = 2 ^ k := by
  induction k with
  | zero => rfl
  | succ k ih => rw [cnt, List.length_append, List.length_map, ih, Nat.pow_succ]; exact om6

/-- where each row goes: image[k] is where place k goes -/
def movedL (image : List Nat) : List Nat := image.foldl (fun rows p => rows ++ rows.map (· + 2 ^ p)) [0]
theorem movedL_snoc (l : List Nat) (p : Nat) : movedL (l ++ [p]) = movedL l ++ (movedL l).map (· + 2 ^ p) := by
  unfold movedL; rw [List.foldl_append]; rfl
theorem movedL_length (l : List Nat) : (movedL l).length = 2 ^ l.length := by
  suffices h : ∀ (l : List Nat) (acc : List Nat), (l.foldl (fun rows p => rows ++ rows.map (· + 2 ^ p)) acc).length = acc.length * 2 ^ l.length by
    have := h l [0]
    simpa [movedL] using this
  intro l
  induction l with
  | nil => intro acc; simp
  | cons p l ih => intro acc; rw [List.foldl_cons, ih, List.length_append, List.length_map, List.length_cons, Nat.pow_succ, ← Nat.two_mul, Nat.mul_assoc, Nat.mul_left_comm, Nat.mul_comm 2 (2 ^ l.length)]

structure BS where
  mark : List Int
  row : List Nat
  great : Bool

def stepK (m : List Nat) (t : Int) (x : Nat) (b : BS) : BS :=
  if b.mark.getD (m.getD x 0) 0 = 0 then { b with mark := b.mark.set (m.getD x 0) (b.mark.getD x 0 * t), row := b.row ++ [m.getD x 0] }
  else if b.mark.getD (m.getD x 0) 0 ≠ b.mark.getD x 0 * t then { b with great := false } else b
def stepB (m0 m1 : List Nat) (t0 t1 : Int) (x : Nat) (b : BS) : BS := stepK m1 t1 x (stepK m0 t0 x b)
def bfs (m0 m1 : List Nat) (t0 t1 : Int) : Nat → Nat → BS → BS
  | 0, _, b => b
  | f + 1, i, b => if i < b.row.length then bfs m0 m1 t0 t1 f (i + 1) (stepB m0 m1 t0 t1 (b.row.getD i 0) b) else b

theorem bfs_stop {m0 m1 : List Nat} {t0 t1 : Int} {f i : Nat} {b : BS} (h : ¬ i < b.row.length) : bfs m0 m1 t0 t1 f i b = b := by
  cases f with
  | zero => rfl
  | succ f => rw [bfs, if_neg h]

abbrev Kind := Nat × Nat × Bool
def kindStep (m0 m1 : List Nat) (t0 t1 : Int) (counts : List Nat) (N : Nat) (st : List Int × List Kind) (first : Nat) : List Int × List Kind :=
  if st.1.getD first 0 = 0 then
    let b := bfs m0 m1 t0 t1 N 0 ⟨st.1.set first 1, [first], true⟩
    (b.mark, st.2 ++ [(first, counts.getD first 0, b.great)])
  else st
def kindsL (m0 m1 : List Nat) (t0 t1 : Int) (n : Nat) : List Kind :=
  ((List.range (2 ^ n)).foldl (kindStep m0 m1 t0 t1 (cnt n) (2 ^ n)) (List.replicate (2 ^ n) 0, [])).2

def unit (t : Int) : Prop := t = 1 ∨ t = -1
structure Mv (N : Nat) (m : List Nat) : Prop where
  len : m.length = N
  lt : ∀ x, x < N → m.getD x 0 < N

def zeros (l : List Int) : Nat := l.countP (· == 0)
structure MInv (N : Nat) (mark : List Int) : Prop where
  len : mark.length = N
  val : ∀ x ∈ mark, x = 0 ∨ x = 1 ∨ x = -1
structure BInv (N : Nat) (b : BS) : Prop extends MInv N b.mark where
  row : ∀ r ∈ b.row, r < N ∧ b.mark.getD r 0 ≠ 0
  zer : zeros b.mark + b.row.length ≤ N

theorem getD_set_eq {α : Type} (l : List α) (i : Nat) (v d : α) (h : i < l.length) : (l.set i v).getD i d = v := by
  simp [List.getD_eq_getElem?_getD, h]
theorem getD_set_ne {α : Type} (l : List α) {i j : Nat} (v d : α) (h : i ≠ j) : (l.set i v).getD j d = l.getD j d := by
  simp [List.getD_eq_getElem?_getD, List.getElem?_set_ne h]
theorem unit_mul {a t : Int} (ha : a = 1 ∨ a = -1) (ht : unit t) : a * t = 1 ∨ a * t = -1 := by
  rcases ha with rfl | rfl <;> rcases ht with rfl | rfl <;> decide
theorem MInv.get {N : Nat} {mark : List Int} (h : MInv N mark) (x : Nat) : mark.getD x 0 = 0 ∨ mark.getD x 0 = 1 ∨ mark.getD x 0 = -1 := by
  by_cases hx : x < mark.length
  · have : mark.getD x 0 = mark[x] := by simp [List.getD_eq_getElem?_getD, hx]
    rw [this]
    exact h.val _ (List.getElem_mem hx)
  · left; simp [List.getD_eq_getElem?_getD, Nat.not_lt.mp hx]
theorem zeros_set {l : List Int} {i : Nat} {v : Int} (hi : i < l.length) (h0 : l.getD i 0 = 0) (hv : v ≠ 0) : zeros (l.set i v) + 1 = zeros l := by
  induction l generalizing i with
  | nil => simp at hi
  | cons a l ih =>
    cases i with
    | zero =>
      have : a = 0 := by simpa [List.getD_eq_getElem?_getD] using h0
      subst this
      simp [zeros, List.countP_cons, hv]
    | succ i =>
      have := ih (i := i) (by simpa using hi) (by simpa [List.getD_eq_getElem?_getD] using h0)
      simp only [zeros, List.set_cons_succ, List.countP_cons] at this ⊢
      omega
theorem MInv.set {N : Nat} {mark : List Int} (h : MInv N mark) {i : Nat} {v : Int} (hv : v = 1 ∨ v = -1) : MInv N (mark.set i v) :=
  ⟨by rw [List.length_set]; exact h.len, fun x hx => (List.mem_or_eq_of_mem_set hx).elim (h.val x) fun e => .inr (e ▸ hv)⟩
theorem BInv.step {N : Nat} {m : List Nat} {t : Int} {x : Nat} {b : BS} (h : BInv N b) (hm : Mv N m) (ht : unit t) (hx : x ∈ b.row) : BInv N (stepK m t x b) ∧ ∀ r ∈ b.row, r ∈ (stepK m t x b).row := by
  obtain ⟨hxN, hx0⟩ := h.row x hx
  have hto := hm.lt x hxN
  have hs : b.mark.getD x 0 * t = 1 ∨ b.mark.getD x 0 * t = -1 := by
    rcases h.toMInv.get x with e | e
    · exact absurd e hx0
    · exact unit_mul e ht
  have hne : b.mark.getD x 0 * t ≠ 0 := by rcases hs with e | e <;> rw [e] <;> decide
  unfold stepK
  split
  · rename_i h0
    refine ⟨⟨h.toMInv.set hs, fun r hr => ?_, ?_⟩, fun r hr => List.mem_append_left _ hr⟩
    · rcases List.mem_append.mp hr with hr | hr
      · obtain ⟨h1, h2⟩ := h.row r hr
        refine ⟨h1, ?_⟩
        show (b.mark.set _ _).getD r 0 ≠ 0
        by_cases e : m.getD x 0 = r
        · rw [← e, getD_set_eq _ _ _ _ (by rw [h.len]; exact hto)]; exact hne
        · rw [getD_set_ne _ _ _ e]; exact h2
      · rw [List.mem_singleton.mp hr]
        refine ⟨hto, ?_⟩
        show (b.mark.set _ _).getD _ 0 ≠ 0
        rw [getD_set_eq _ _ _ _ (by rw [h.len]; exact hto)]; exact hne
    · have := zeros_set (v := b.mark.getD x 0 * t) (by rw [h.len]; exact hto) h0 hne
      have := h.zer
      show zeros (b.mark.set _ _) + (b.row ++ [_]).length ≤ N
      rw [List.length_append, List.length_singleton]; omega
  · split
    · exact ⟨⟨h.toMInv, h.row, h.zer⟩, fun _ h => h⟩
    · exact ⟨h, fun _ h => h⟩
theorem stepK_row {m : List Nat} {t : Int} {x i : Nat} {b : BS} (hi : i < b.row.length) : (stepK m t x b).row.getD i 0 = b.row.getD i 0 ∧ b.row.length ≤ (stepK m t x b).row.length := by
  unfold stepK
  split
  · simp [List.getD_eq_getElem?_getD, List.getElem?_append_left hi]
  · split <;> simp
theorem BInv.stepB {N : Nat} {m0 m1 : List Nat} {t0 t1 : Int} {x : Nat} {b : BS} (h : BInv N b) (h0 : Mv N m0) (h1 : Mv N m1) (u0 : unit t0) (u1 : unit t1) (hx : x ∈ b.row) : BInv N (stepB m0 m1 t0 t1 x b) ∧ ∀ r ∈ b.row, r ∈ (P.stepB m0 m1 t0 t1 x b).row := by
  obtain ⟨a, a'⟩ := h.step h0 u0 hx
  obtain ⟨c, c'⟩ := a.step h1 u1 (a' x hx)
  exact ⟨c, fun r hr => c' r (a' r hr)⟩
theorem BInv.bfs {N : Nat} {m0 m1 : List Nat} {t0 t1 : Int} (h0 : Mv N m0) (h1 : Mv N m1) (u0 : unit t0) (u1 : unit t1) : ∀ (f i : Nat) {b : BS}, BInv N b → BInv N (bfs m0 m1 t0 t1 f i b)
  | 0, _, _, h => h
  | f + 1, i, b, h => by
    unfold P.bfs
    split
    · rename_i hi
      refine BInv.bfs h0 h1 u0 u1 f (i + 1) (h.stepB h0 h1 u0 u1 ?_).1
      simp [List.getD_eq_getElem?_getD, hi]
    · exact h
theorem BInv.start {N first : Nat} {mark : List Int} (h : MInv N mark) (hf : first < N) (h0 : mark.getD first 0 = 0) : BInv N ⟨mark.set first 1, [first], true⟩ := by
  refine ⟨h.set (.inl rfl), fun r hr => ?_, ?_⟩
  · rw [List.mem_singleton.mp hr]
    exact ⟨hf, by show (mark.set first 1).getD first 0 ≠ 0; rw [getD_set_eq _ _ _ _ (by rw [h.len]; exact hf)]; decide⟩
  · have h1 := zeros_set (v := 1) (by rw [h.len]; exact hf) h0 (by decide)
    have h2 : zeros mark ≤ mark.length := List.countP_le_length
    rw [h.len] at h2
    show zeros (mark.set first 1) + 1 ≤ N
    omega
def itB (m0 m1 : List Nat) (t0 t1 : Int) (x : Nat) (b : BS) : Nat → BS
  | 0 => b
  | 1 => stepK m0 t0 x b
  | _ => stepB m0 m1 t0 t1 x b
theorem BInv.rlen {N : Nat} {b : BS} (h : BInv N b) : b.row.length ≤ N := by have := h.zer; exact om5 this
theorem kind_fold {m0 m1 : List Nat} {t0 t1 : Int} {cs : List Nat} {N : Nat} (h0 : Mv N m0) (h1 : Mv N m1) (u0 : unit t0) (u1 : unit t1) : ∀ i, i ≤ N → MInv N ((List.range i).foldl (kindStep m0 m1 t0 t1 cs N) (List.replicate N 0, [])).1 := by
  intro i
  induction i with
  | zero => intro _; exact ⟨by simp, fun x hx => .inl (List.eq_of_mem_replicate hx)⟩
  | succ i ih =>
    intro hi
    have := ih (by omega)
    rw [List.range_succ, List.foldl_append, List.foldl_cons, List.foldl_nil]
    unfold kindStep
    split
    · rename_i hz
      exact (BInv.bfs h0 h1 u0 u1 _ _ (BInv.start this (by exact om4 hi) hz)).toMInv
    · exact this
theorem kindStep_len {m0 m1 : List Nat} {t0 t1 : Int} {cs : List Nat} {N : Nat} (st : List Int × List Kind) (f : Nat) : (kindStep m0 m1 t0 t1 cs N st f).2.length ≤ st.2.length + 1 := by
  unfold kindStep
  split
  · simp
  · exact om3
theorem kind_count {m0 m1 : List Nat} {t0 t1 : Int} {cs : List Nat} {N : Nat} : ∀ i, ((List.range i).foldl (kindStep m0 m1 t0 t1 cs N) (List.replicate N 0, [])).2.length ≤ i := by
  intro i
  induction i with
  | zero => exact Nat.le_refl _
  | succ i ih =>
    rw [List.range_succ, List.foldl_append, List.foldl_cons, List.foldl_nil]
    exact Nat.le_trans (kindStep_len _ _) (by omega)

-- the renaming
def renIn (block image : List Nat) : Nat → List Nat
  | 0 => image
  | k + 1 => (renIn block image k).set (block.getD k 0) (block.getD ((k + 1) % block.length) 0)
structure RS where
  image : List Nat
  turn : Int
  at_ : Nat
def blockOf (order : List Nat) (at_ size : Nat) : List Nat := (order.drop at_).take size
def renStep (order : List Nat) (r : RS) (size : Nat) : RS :=
  ⟨renIn (blockOf order r.at_ size) r.image (blockOf order r.at_ size).length, if (blockOf order r.at_ size).length % 2 = 0 then -r.turn else r.turn, r.at_ + size⟩
def renL (order sizes : List Nat) : RS := sizes.foldl (renStep order) ⟨List.range order.length, 1, 0⟩
theorem renIn_length (block image : List Nat) : ∀ k, (renIn block image k).length = image.length
  | 0 => rfl
  | k + 1 => by rw [renIn, List.length_set, renIn_length block image k]
theorem ren_fold (order : List Nat) : ∀ (sizes : List Nat) (r : RS) (B : Nat), (∀ z ∈ sizes, z ≤ B) → (sizes.foldl (renStep order) r).image.length = r.image.length ∧ (sizes.foldl (renStep order) r).at_ ≤ r.at_ + B * sizes.length
  | [], r, B, _ => ⟨rfl, by simp⟩
  | z :: l, r, B, h => by
    have ih := ren_fold order l (renStep order r z) B fun y hy => h y (List.mem_cons_of_mem _ hy)
    have hz := h z List.mem_cons_self
    rw [List.foldl_cons]
    refine ⟨ih.1.trans (renIn_length _ _ _), Nat.le_trans ih.2 ?_⟩
    show r.at_ + z + B * l.length ≤ r.at_ + B * (l.length + 1)
    rw [Nat.mul_succ]; exact om2 hz
theorem blockOf_mem {order : List Nat} {a b x : Nat} (h : x ∈ blockOf order a b) : x ∈ order := List.mem_of_mem_drop (List.mem_of_mem_take h)
theorem clip_slice {α : Type} (l : List α) (a b : Nat) : (l.drop (min a l.length)).take (min (a + b) l.length - min a l.length) = (l.drop a).take b := by
  rcases Nat.lt_or_ge l.length a with h | h
  · rw [Nat.min_eq_right (Nat.le_of_lt h), List.drop_of_length_le (Nat.le_refl _), List.drop_of_length_le (Nat.le_of_lt h), List.take_nil, List.take_nil]
  · rw [Nat.min_eq_left h]
    rcases Nat.lt_or_ge l.length (a + b) with h2 | h2
    · rw [Nat.min_eq_right (Nat.le_of_lt h2), List.take_of_length_le (by simp), List.take_of_length_le (by simp; omega)]
    · rw [Nat.min_eq_left h2, Nat.add_sub_cancel_left]

-- what the sizes of the pieces are
def plainL (a b n : Nat) : List Nat := if b = 127 then [a] else if b = 0 then List.replicate ((n + a - 1) / a) a else if a < n then [a, b] else [a]
end P
theorem fmod_nat (a b : Nat) : Int.fmod (a : Int) (b : Int) = ((a % b : Nat) : Int) := by
  rw [Int.fmod_eq_emod_of_nonneg _ (by exact om1)]; rfl
theorem fdiv_nat (a b : Nat) : Int.fdiv (a : Int) (b : Int) = ((a / b : Nat) : Int) := by
  rw [Int.fdiv_eq_ediv_of_nonneg _ (by omega)]; rfl
theorem sorted_range {n : Nat} {l : List Nat} (hp : l.Perm (List.range n)) {ns : List Int} (h : ns.Perm (l.map fun x : Nat => (x : Int))) (hs : ns.Pairwise (· ≤ ·)) : ns = (List.range n).map fun x : Nat => (x : Int) := by
  have h2 : ns.Perm ((List.range n).map fun x : Nat => (x : Int)) := h.trans (hp.map _)
  refine List.Perm.eq_of_pairwise (fun a b _ _ h1 h2 => Int.le_antisymm h1 h2) hs ?_ h2
  rw [List.pairwise_map]
  exact List.Pairwise.imp (fun h => Int.ofNat_le.mpr (Nat.le_of_lt h)) List.pairwise_lt_range
end Mine
end

section
set_option autoImplicit false
namespace Mine
-- sums
def sm {α : Type} (l : List α) (f : α → Int) : Int := (l.map f).sum
theorem sm_nil {α : Type} (f : α → Int) : sm [] f = 0 := rfl
theorem sm_cons {α : Type} (a : α) (l : List α) (f : α → Int) : sm (a :: l) f = f a + sm l f := by unfold sm; rw [List.map_cons, List.sum_cons]
theorem sm_perm {α : Type} {l l' : List α} (h : l.Perm l') (f : α → Int) : sm l f = sm l' f := by
  induction h with
  | nil => rfl
  | cons x _ ih => rw [sm_cons, sm_cons, ih]
  | swap x y l => simp only [sm_cons]; exact om11
  | trans _ _ ih1 ih2 => rw [ih1, ih2]
theorem sm_congr {α : Type} {l : List α} {f g : α → Int} (h : ∀ x ∈ l, f x = g x) : sm l f = sm l g := by
  induction l with
  | nil => rfl
  | cons a l ih => rw [sm_cons, sm_cons, h a List.mem_cons_self, ih fun x hx => h x (List.mem_cons_of_mem _ hx)]
theorem sm_zero {α : Type} (l : List α) {f : α → Int} (h : ∀ x ∈ l, f x = 0) : sm l f = 0 := by
  induction l with
  | nil => rfl
  | cons a l ih => rw [sm_cons, h a List.mem_cons_self, ih fun x hx => h x (List.mem_cons_of_mem _ hx)]; rfl
theorem sm_add {α : Type} (l : List α) (f g : α → Int) : sm l (fun x => f x + g x) = sm l f + sm l g := by
  induction l with
  | nil => rfl
  | cons a l ih => simp only [sm_cons, ih]; omega
theorem sm_sub {α : Type} (l : List α) (f g : α → Int) : sm l (fun x => f x - g x) = sm l f - sm l g := by
  induction l with
  | nil => rfl
  | cons a l ih => simp only [sm_cons, ih]; omega
theorem sm_mul {α : Type} (l : List α) (c : Int) (f : α → Int) : sm l (fun x => c * f x) = c * sm l f := by
  induction l with
  | nil => rw [sm_nil, sm_nil, Int.mul_zero]
  | cons a l ih => rw [sm_cons, sm_cons, ih, Int.mul_add]
theorem sm_mulr {α : Type} (l : List α) (c : Int) (f : α → Int) : sm l (fun x => f x * c) = sm l f * c := by
  rw [Int.mul_comm, ← sm_mul]
  exact sm_congr fun x _ => Int.mul_comm _ _
theorem sm_map {α β : Type} (l : List α) (m : α → β) (f : β → Int) : sm (l.map m) f = sm l fun x => f (m x) := by
  unfold sm; rw [List.map_map]; rfl
theorem sm_swap {α β : Type} (l : List α) (l' : List β) (f : α → β → Int) : sm l (fun x => sm l' (f x)) = sm l' fun y => sm l fun x => f x y := by
  induction l with
  | nil => rw [sm_nil]; exact (sm_zero l' fun _ _ => sm_nil _).symm
  | cons a l ih => rw [sm_cons, ih, ← sm_add]; exact sm_congr fun y _ => (sm_cons a l fun x => f x y).symm
theorem sm_one {l : List Nat} (hn : l.Nodup) {a : Nat} (ha : a ∈ l) (f : Nat → Int) (h0 : ∀ x ∈ l, x ≠ a → f x = 0) : sm l f = f a := by
  induction l with
  | nil => exact nomatch ha
  | cons b l ih =>
    rw [List.nodup_cons] at hn
    rw [sm_cons]
    rcases List.mem_cons.mp ha with rfl | ha
    · rw [sm_zero l fun x hx => h0 x (List.mem_cons_of_mem _ hx) fun e => hn.1 (e ▸ hx)]; exact om10
    · rw [h0 b List.mem_cons_self fun e => hn.1 (e ▸ ha), ih hn.2 ha fun x hx => h0 x (List.mem_cons_of_mem _ hx)]; omega
/-- more unknowns than equations -/
theorem kernel {ι : Type} : ∀ (B : List ι) (A : List Nat), A.Nodup → B.length < A.length → ∀ cf : ι → Nat → Int, ∃ c : Nat → Int, (∃ r ∈ A, c r ≠ 0) ∧ ∀ s ∈ B, sm A (fun r => cf s r * c r) = 0 := by
  intro B
  induction B with
  | nil =>
    intro A _ hl cf
    match A, hl with
    | a :: A, _ => exact ⟨fun _ => 1, ⟨a, List.mem_cons_self, Int.one_ne_zero⟩, fun _ h => nomatch h⟩
  | cons s B ih =>
    intro A hn hl cf
    rw [List.length_cons] at hl
    by_cases hz : ∀ r ∈ A, cf s r = 0
    · obtain ⟨c, h1, h2⟩ := ih A hn (by omega) cf
      refine ⟨c, h1, fun t ht => ?_⟩
      rcases List.mem_cons.mp ht with rfl | ht
      · exact sm_zero A fun r hr => by rw [hz r hr, Int.zero_mul]
      · exact h2 t ht
    · obtain ⟨p, hp, hp0⟩ : ∃ p ∈ A, cf s p ≠ 0 := by
        apply Classical.byContradiction
        intro h
        exact hz fun r hr => Classical.byContradiction fun h' => h ⟨r, hr, h'⟩
      have hperm := List.perm_cons_erase hp
      have hn' : (p :: A.erase p).Nodup := hperm.nodup_iff.mp hn
      rw [List.nodup_cons] at hn'
      have hlen := hperm.length_eq
      rw [List.length_cons] at hlen
      obtain ⟨c', ⟨r0, hr0, hc0⟩, h2⟩ := ih (A.erase p) hn'.2 (by exact om9 hl hlen) fun i r => cf s p * cf i r - cf i p * cf s r
      have hne : ∀ r ∈ A.erase p, r ≠ p := fun r hr e => hn'.1 (e ▸ hr)
      refine ⟨fun r => if r = p then - sm (A.erase p) (fun r => cf s r * c' r) else cf s p * c' r, ⟨r0, List.mem_of_mem_erase hr0, ?_⟩, fun t ht => ?_⟩
      · show (if r0 = p then _ else _) ≠ _
        rw [if_neg (hne r0 hr0)]
        exact Int.mul_ne_zero hp0 hc0
      rw [sm_perm hperm, sm_cons]
      have e : sm (A.erase p) (fun r => cf t r * (if r = p then - sm (A.erase p) (fun r => cf s r * c' r) else cf s p * c' r)) = sm (A.erase p) (fun r => (cf s p * cf t r - cf t p * cf s r) * c' r + cf t p * (cf s r * c' r)) := sm_congr fun r hr => by
        rw [if_neg (hne r hr), Int.sub_mul, Int.mul_assoc (cf t p), Int.sub_add_cancel, Int.mul_left_comm, Int.mul_assoc]
      show cf t p * (if p = p then - sm (A.erase p) (fun r => cf s r * c' r) else cf s p * c' p) + sm (A.erase p) (fun r => cf t r * (if r = p then - sm (A.erase p) (fun r => cf s r * c' r) else cf s p * c' r)) = 0
      rw [e, if_pos rfl]
      rw [sm_add, sm_mul, Int.mul_neg]
      have : sm (A.erase p) (fun r => (cf s p * cf t r - cf t p * cf s r) * c' r) = 0 := by
        rcases List.mem_cons.mp ht with rfl | ht
        · exact sm_zero _ fun r _ => by rw [Int.sub_self, Int.zero_mul]
        · exact h2 t ht
      rw [this]; exact om8
/-- as many, apart, and among them: all of them -/
theorem all_of {α : Type} [DecidableEq α] : ∀ {l' l : List α}, l'.Nodup → (∀ x ∈ l', x ∈ l) → l.length ≤ l'.length → l'.Perm l
  | [], l, _, _, h => by
    have : l = [] := List.eq_nil_of_length_eq_zero (by simpa using h)
    rw [this]
  | a :: l', l, hn, hs, h => by
    rw [List.nodup_cons] at hn
    have ha := hs a List.mem_cons_self
    have hp := List.perm_cons_erase ha
    have hlen := hp.length_eq
    rw [List.length_cons] at hlen h
    refine ((all_of hn.2 (l := l.erase a) (fun x hx => ?_) (by exact om7 h hlen)).cons a).trans hp.symm
    have hx' := hs x (List.mem_cons_of_mem _ hx)
    exact (List.mem_erase_of_ne (fun e => hn.1 (by rw [← e]; exact hx))).mpr hx'
theorem map_perm {m : Nat → Nat} {l : List Nat} (hn : l.Nodup) (hm : ∀ x ∈ l, m x ∈ l) (hi : ∀ x ∈ l, ∀ y ∈ l, m x = m y → x = y) : (l.map m).Perm l := by
  refine all_of ?_ (fun x hx => ?_) (by rw [List.length_map]; exact Nat.le_refl _)
  · rw [List.nodup_iff_pairwise_ne] at hn ⊢
    rw [List.pairwise_map]
    exact List.Pairwise.imp_of_mem (fun {a b} ha hb hne e => hne (hi a ha b hb e)) hn
  · obtain ⟨y, hy, rfl⟩ := List.mem_map.mp hx
    exact hm y hy
/-- what is closed under an injective move of finitely many, its complement is too -/
theorem compl_closed {m : Nat → Nat} {N : Nat} {C : Nat → Prop} [DecidablePred C] (hm : ∀ x, x < N → m x < N) (hi : ∀ x y, x < N → y < N → m x = m y → x = y) (hc : ∀ x, x < N → C x → C (m x)) {x : Nat} (hx : x < N) (h : C (m x)) : C x := by
  have hn : ((List.range N).filter fun x => decide (C x)).Nodup := List.nodup_range.filter _
  have hp := map_perm (m := m) hn (fun y hy => by
    rw [List.mem_filter] at hy ⊢
    exact ⟨List.mem_range.mpr (hm y (List.mem_range.mp hy.1)), decide_eq_true (hc y (List.mem_range.mp hy.1) (of_decide_eq_true hy.2))⟩) fun a ha b hb e =>
      hi a b (List.mem_range.mp (List.mem_filter.mp ha).1) (List.mem_range.mp (List.mem_filter.mp hb).1) e
  have : m x ∈ ((List.range N).filter fun x => decide (C x)).map m := hp.mem_iff.mpr (List.mem_filter.mpr ⟨List.mem_range.mpr (hm x hx), decide_eq_true h⟩)
  obtain ⟨y, hy, e⟩ := List.mem_map.mp this
  have hy' := List.mem_filter.mp hy
  rw [← hi y x (List.mem_range.mp hy'.1) hx e]
  exact of_decide_eq_true hy'.2
end Mine
end

section
set_option autoImplicit false
namespace Mine
def Semi (N : Nat) (m : Bool → Nat → Nat) (t : Bool → Int) (h : Nat → Int) : Prop := ∀ j x, x < N → h (m j x) = t j * h x
structure Sys (N : Nat) (m : Bool → Nat → Nat) (t : Bool → Int) (own : Nat → Nat) (sg : Nat → Int) (good : Nat → Prop) : Prop where
  sg1 : ∀ x, x < N → own x = x → sg x = 1
  basis : ∀ r, r < N → own r = r → good r → Semi N m t fun x => if own x = r then sg x else 0
  det : ∀ h, Semi N m t h → ∀ x, x < N → h x = sg x * h (own x)
  bad : ∀ h, Semi N m t h → ∀ x, x < N → ¬ good (own x) → h (own x) = 0
theorem count_le {N : Nat} {m : Bool → Nat → Nat} {t : Bool → Int} {own : Nat → Nat} {sg : Nat → Int} {good : Nat → Prop} (Y : Sys N m t own sg good)
    {La Lb A B : List Nat} (K W : Nat → Nat → Int) (c0 : Int) (ha : ∀ x ∈ La, x < N) (hna : La.Nodup) (ca : ∀ j, ∀ x ∈ La, m j x ∈ La) (cb : ∀ j y, y < N → (m j y ∈ Lb ↔ y ∈ Lb)) (hb : ∀ y ∈ Lb, y < N)
    (hi : ∀ j x y, x < N → y < N → m j x = m j y → x = y) (hK : ∀ j, ∀ y ∈ Lb, ∀ x ∈ La, K (m j y) (m j x) = K y x)
    (hW : ∀ x' ∈ La, ∀ x ∈ La, sm Lb (fun y => W x' y * K y x) = if x = x' then c0 else 0) (hc0 : c0 ≠ 0)
    (hA : A.Nodup) (hA' : ∀ r ∈ A, r ∈ La ∧ own r = r ∧ good r) (hB : ∀ y ∈ Lb, own y ∈ Lb ∧ (good (own y) → own y ∈ B)) : A.length ≤ B.length := by
  apply Classical.byContradiction
  intro hlt
  obtain ⟨c, ⟨r0, hr0, hc⟩, hz⟩ := kernel B A hA (by exact om12 hlt) fun s r => sm La fun x => K s x * if own x = r then sg x else 0
  generalize hE : (fun r x => if own x = r then sg x else 0 : Nat → Nat → Int) = e at *
  have ee : ∀ r x, e r x = if own x = r then sg x else 0 := fun r x => by rw [← hE]
  -- the combination
  have hS : Semi N m t fun x => sm A fun r => e r x * c r := by
    intro j x hx
    show (sm A fun r => e r (m j x) * c r) = t j * sm A fun r => e r x * c r
    rw [← sm_mul]
    refine sm_congr fun r hr => ?_
    obtain ⟨h1, h2, h3⟩ := hA' r hr
    have : (if own (m j x) = r then sg (m j x) else 0) = t j * (if own x = r then sg x else 0) := Y.basis r (ha r h1) h2 h3 j x hx
    rw [ee, ee, this, Int.mul_assoc]
  generalize hh : (fun x => sm A fun r => e r x * c r) = h at hS
  have hv : ∀ x, h x = sm A fun r => e r x * c r := fun x => by rw [← hh]
  -- its image
  have hG : Semi N m t fun y => if y ∈ Lb then sm La (fun x => K y x * h x) else 0 := by
    intro j y hy
    show (if m j y ∈ Lb then sm La (fun x => K (m j y) x * h x) else 0) = t j * if y ∈ Lb then sm La (fun x => K y x * h x) else 0
    by_cases hyb : y ∈ Lb
    · rw [if_pos ((cb j y hy).mpr hyb), if_pos hyb, ← sm_mul, ← sm_perm (map_perm hna (ca j) fun x hx x' hx' => hi j x x' (ha x hx) (ha x' hx')), sm_map]
      refine sm_congr fun x hx => ?_
      rw [hK j y hyb x hx, hS j x (ha x hx), Int.mul_left_comm]
    · rw [if_neg (fun q => hyb ((cb j y hy).mp q)), if_neg hyb, Int.mul_zero]
  have hgB : ∀ s ∈ B, sm La (fun x => K s x * h x) = 0 := by
    intro s hs
    rw [← hz s hs]
    have e1 : ∀ x ∈ La, K s x * h x = sm A fun r => (K s x * e r x) * c r := fun x _ => by
      rw [hv, ← sm_mul]
      exact sm_congr fun r _ => (Int.mul_assoc _ _ _).symm
    rw [sm_congr e1, sm_swap]
    refine sm_congr fun r _ => ?_
    rw [sm_mulr]
    congr 1
    exact sm_congr fun x _ => by rw [ee]
  have hg0 : ∀ y ∈ Lb, sm La (fun x => K y x * h x) = 0 := by
    intro y hy
    obtain ⟨b1, b2⟩ := hB y hy
    have d := Y.det _ hG y (hb y hy)
    (try dsimp only at d)
    rw [if_pos hy, if_pos b1] at d
    rw [d]
    by_cases hg : good (own y)
    · rw [hgB _ (b2 hg), Int.mul_zero]
    · have := Y.bad _ hG y (hb y hy) hg
      (try dsimp only at this)
      rw [if_pos b1] at this
      rw [this, Int.mul_zero]
  obtain ⟨q1, q2, q3⟩ := hA' r0 hr0
  have h0 : c0 * h r0 = 0 := by
    have e1 : sm Lb (fun y => W r0 y * sm La (fun x => K y x * h x)) = 0 := sm_zero Lb fun y hy => by rw [hg0 y hy, Int.mul_zero]
    have e2 : sm Lb (fun y => W r0 y * sm La (fun x => K y x * h x)) = sm La fun x => sm Lb (fun y => W r0 y * K y x) * h x := by
      rw [sm_congr (g := fun y => sm La fun x => (W r0 y * K y x) * h x) fun y _ => by
        rw [← sm_mul]
        exact sm_congr fun x _ => (Int.mul_assoc _ _ _).symm]
      rw [sm_swap]
      exact sm_congr fun x _ => sm_mulr _ _ _
    rw [e2, sm_one hna q1 _ fun x hx hne => by rw [hW r0 q1 x hx, if_neg hne, Int.zero_mul]] at e1
    rw [hW r0 q1 r0 q1, if_pos rfl] at e1
    exact e1
  have hr : h r0 = c r0 := by
    rw [hv, sm_one hA hr0 _ fun r hr hne => by rw [ee, q2, if_neg (Ne.symm hne), Int.zero_mul]]
    rw [ee, q2, if_pos rfl, Y.sg1 r0 (ha r0 q1) q2, Int.one_mul]
  rw [hr] at h0
  exact Int.mul_ne_zero hc0 hc h0
end Mine
end

section
set_option autoImplicit false
namespace Mine
open P
def mf (m0 m1 : List Nat) (j : Bool) (x : Nat) : Nat := (if j then m1 else m0).getD x 0
def tf (t0 t1 : Int) (j : Bool) : Int := if j then t1 else t0
inductive Reach (m : Bool → Nat → Nat) (t : Bool → Int) (r : Nat) : Nat → Int → Prop
  | refl : Reach m t r r 1
  | step {x : Nat} {e : Int} (j : Bool) : Reach m t r x e → Reach m t r (m j x) (e * t j)
theorem Reach.semi {N : Nat} {m : Bool → Nat → Nat} {t : Bool → Int} {r x : Nat} {e : Int} (R : Reach m t r x e) (hm : ∀ j x, x < N → m j x < N) (hr : r < N) : x < N ∧ ∀ h, Semi N m t h → h x = e * h r := by
  induction R with
  | refl => exact ⟨hr, fun h _ => (Int.one_mul _).symm⟩
  | step j _ ih => exact ⟨hm j _ ih.1, fun h hs => by rw [hs j _ ih.1, ih.2 h hs, Int.mul_comm _ (t j), Int.mul_assoc]⟩
theorem Reach.plain {N : Nat} {m : Bool → Nat → Nat} {t : Bool → Int} {r x : Nat} {e : Int} (R : Reach m t r x e) (hm : ∀ j x, x < N → m j x < N) (hr : r < N) : ∀ h, Semi N m (fun _ => 1) h → h x = h r := by
  induction R with
  | refl => exact fun h _ => rfl
  | step j R ih => exact fun h hs => by rw [hs j _ (R.semi hm hr).1, ih h hs, Int.one_mul]
theorem Reach.inv {N : Nat} {m : Bool → Nat → Nat} {t : Bool → Int} {r x : Nat} {e : Int} (R : Reach m t r x e) (hm : ∀ j x, x < N → m j x < N) (hr : r < N) {α : Type} (f : Nat → α) (hf : ∀ j x, x < N → f (m j x) = f x) : f x = f r := by
  induction R with
  | refl => rfl
  | step j R ih => rw [hf j _ (R.semi hm hr).1, ih]

structure BI (N : Nat) (m0 m1 : List Nat) (t0 t1 : Int) (first : Nat) (mk0 : List Int) (D : Nat → Bool → Prop) (b : BS) : Prop extends BInv N b where
  mks : ∀ x, x < N → (b.mark.getD x 0 ≠ 0 ↔ (mk0.getD x 0 ≠ 0 ∨ x ∈ b.row))
  same : ∀ x, mk0.getD x 0 ≠ 0 → b.mark.getD x 0 = mk0.getD x 0
  new : ∀ x ∈ b.row, mk0.getD x 0 = 0
  reach : ∀ x ∈ b.row, Reach (mf m0 m1) (tf t0 t1) first x (b.mark.getD x 0)
  done : ∀ x j, x ∈ b.row → D x j → mf m0 m1 j x ∈ b.row
  ok : b.great = true → ∀ x j, x ∈ b.row → D x j → b.mark.getD (mf m0 m1 j x) 0 = b.mark.getD x 0 * tf t0 t1 j
  fst : first ∈ b.row ∧ b.mark.getD first 0 = 1
  ko : b.great = false → ∃ x j, x ∈ b.row ∧ mf m0 m1 j x ∈ b.row ∧ b.mark.getD (mf m0 m1 j x) 0 ≠ b.mark.getD x 0 * tf t0 t1 j
theorem BI.less {N : Nat} {m0 m1 : List Nat} {t0 t1 : Int} {first : Nat} {mk0 : List Int} {D D' : Nat → Bool → Prop} {b : BS} (h : BI N m0 m1 t0 t1 first mk0 D b) (hd : ∀ x j, x ∈ b.row → D' x j → D x j) : BI N m0 m1 t0 t1 first mk0 D' b :=
  ⟨h.toBInv, h.mks, h.same, h.new, h.reach, fun x j hx d => h.done x j hx (hd x j hx d), fun g x j hx d => h.ok g x j hx (hd x j hx d), h.fst, h.ko⟩
theorem BI.step {N : Nat} {m0 m1 : List Nat} {t0 t1 : Int} {first : Nat} {mk0 : List Int} {D : Nat → Bool → Prop} {b : BS} (h : BI N m0 m1 t0 t1 first mk0 D b) (h0 : Mv N m0) (h1 : Mv N m1) (u0 : unit t0) (u1 : unit t1)
    (hD : ∀ y k, D y k → y ∈ b.row) (hold : ∀ j x, x < N → mk0.getD (mf m0 m1 j x) 0 ≠ 0 → mk0.getD x 0 ≠ 0) {x : Nat} (hx : x ∈ b.row) (j : Bool) :
    BI N m0 m1 t0 t1 first mk0 (fun y k => D y k ∨ (y = x ∧ k = j)) (stepK (if j then m1 else m0) (tf t0 t1 j) x b) ∧ ∃ l, (stepK (if j then m1 else m0) (tf t0 t1 j) x b).row = b.row ++ l := by
  have hmv : Mv N (if j then m1 else m0) := by cases j <;> assumption
  have hu : unit (tf t0 t1 j) := by cases j <;> assumption
  have hB := (h.toBInv.step hmv hu hx).1
  obtain ⟨hxN, hx0⟩ := h.row x hx
  have hto : mf m0 m1 j x < N := hmv.lt x hxN
  have hs0 : b.mark.getD x 0 * tf t0 t1 j ≠ 0 := Int.mul_ne_zero hx0 (by rcases hu with e | e <;> rw [e] <;> decide)
  have hnold : mk0.getD (mf m0 m1 j x) 0 = 0 := Classical.byContradiction fun q => hold j x hxN q (h.new x hx)
  unfold stepK at hB ⊢
  have e : (if j = true then m1 else m0).getD x 0 = mf m0 m1 j x := rfl
  rw [e] at hB ⊢
  by_cases hz : b.mark.getD (mf m0 m1 j x) 0 = 0
  · rw [if_pos hz] at hB ⊢
    have htr : mf m0 m1 j x ∉ b.row := fun q => (h.row _ q).2 hz
    have hxt : x ≠ mf m0 m1 j x := fun q => htr (q ▸ hx)
    have gm : ∀ y, y ≠ mf m0 m1 j x → (b.mark.set (mf m0 m1 j x) (b.mark.getD x 0 * tf t0 t1 j)).getD y 0 = b.mark.getD y 0 := fun y hy => getD_set_ne _ _ _ (Ne.symm hy)
    have gt : (b.mark.set (mf m0 m1 j x) (b.mark.getD x 0 * tf t0 t1 j)).getD (mf m0 m1 j x) 0 = b.mark.getD x 0 * tf t0 t1 j := getD_set_eq _ _ _ _ (by rw [h.len]; exact hto)
    have rn : ∀ y ∈ b.row, y ≠ mf m0 m1 j x := fun y hy q => htr (q ▸ hy)
    refine ⟨⟨hB, fun y hy => ?_, fun y hy => ?_, fun y hy => ?_, fun y hy => ?_, fun y k hy hd => ?_, fun g y k hy hd => ?_, ⟨List.mem_append_left _ h.fst.1, (gm _ (rn _ h.fst.1)).trans h.fst.2⟩, fun g => ?_⟩, [mf m0 m1 j x], rfl⟩
    · show (b.mark.set _ _).getD y 0 ≠ 0 ↔ (_ ∨ y ∈ b.row ++ [_])
      by_cases q : y = mf m0 m1 j x
      · subst q
        rw [gt]
        exact ⟨fun _ => .inr (List.mem_append_right _ List.mem_cons_self), fun _ => hs0⟩
      · rw [gm y q, h.mks y hy, List.mem_append, List.mem_singleton]
        exact ⟨fun o => o.elim .inl fun o => .inr (.inl o), fun o => o.elim .inl fun o => o.elim .inr fun o => absurd o q⟩
    · show (b.mark.set _ _).getD y 0 = _
      rw [gm y fun q => hy (by rw [q]; exact hnold)]
      exact h.same y hy
    · rcases List.mem_append.mp hy with hy | hy
      · exact h.new y hy
      · rw [List.mem_singleton.mp hy]; exact hnold
    · show Reach _ _ _ y ((b.mark.set _ _).getD y 0)
      rcases List.mem_append.mp hy with hy | hy
      · rw [gm y (rn y hy)]; exact h.reach y hy
      · rw [List.mem_singleton.mp hy, gt]; exact .step j (h.reach x hx)
    · show _ ∈ b.row ++ [_]
      rcases hd with hd | ⟨rfl, rfl⟩
      · exact List.mem_append_left _ (h.done y k (hD y k hd) hd)
      · exact List.mem_append_right _ List.mem_cons_self
    · show (b.mark.set _ _).getD _ 0 = (b.mark.set _ _).getD y 0 * _
      rcases hd with hd | ⟨rfl, rfl⟩
      · have hy' := hD y k hd
        rw [gm _ (rn _ (h.done y k hy' hd)), gm y (rn y hy')]
        exact h.ok g y k hy' hd
      · rw [gt, gm y hxt]
    · obtain ⟨y, k, a1, a2, a3⟩ := h.ko g
      refine ⟨y, k, List.mem_append_left _ a1, List.mem_append_left _ a2, ?_⟩
      show (b.mark.set _ _).getD _ 0 ≠ (b.mark.set _ _).getD y 0 * _
      rw [gm _ (rn _ a2), gm y (rn y a1)]
      exact a3
  · rw [if_neg hz] at hB ⊢
    have htr : mf m0 m1 j x ∈ b.row := by
      rcases (h.mks _ hto).mp hz with q | q
      · exact absurd hnold q
      · exact q
    by_cases hne : b.mark.getD (mf m0 m1 j x) 0 ≠ b.mark.getD x 0 * tf t0 t1 j
    · rw [if_pos hne] at hB ⊢
      refine ⟨⟨hB, h.mks, h.same, h.new, h.reach, fun y k hy hd => ?_, (fun g => nomatch g), h.fst, fun _ => ⟨x, j, hx, htr, hne⟩⟩, [], (List.append_nil _).symm⟩
      rcases hd with hd | ⟨rfl, rfl⟩
      · exact h.done y k hy hd
      · exact htr
    · rw [if_neg hne] at hB ⊢
      refine ⟨⟨hB, h.mks, h.same, h.new, h.reach, fun y k hy hd => ?_, fun g y k hy hd => ?_, h.fst, h.ko⟩, [], (List.append_nil _).symm⟩
      · rcases hd with hd | ⟨rfl, rfl⟩
        · exact h.done y k hy hd
        · exact htr
      · rcases hd with hd | ⟨rfl, rfl⟩
        · exact h.ok g y k hy hd
        · exact Classical.byContradiction hne
/-- the places up to i are done -/
def DI (b : BS) (i : Nat) (y : Nat) (_k : Bool) : Prop := ∃ q, q < i ∧ b.row[q]? = some y
theorem BI.bfs {N : Nat} {m0 m1 : List Nat} {t0 t1 : Int} {first : Nat} {mk0 : List Int} (h0 : Mv N m0) (h1 : Mv N m1) (u0 : unit t0) (u1 : unit t1) (hold : ∀ j x, x < N → mk0.getD (mf m0 m1 j x) 0 ≠ 0 → mk0.getD x 0 ≠ 0) :
    ∀ (f i : Nat) (b : BS), N ≤ f + i → BI N m0 m1 t0 t1 first mk0 (DI b i) b → (∃ l, (bfs m0 m1 t0 t1 f i b).row = b.row ++ l) ∧ BI N m0 m1 t0 t1 first mk0 (fun _ _ => True) (bfs m0 m1 t0 t1 f i b) := by
  have fin : ∀ (i : Nat) (b : BS), ¬ i < b.row.length → BI N m0 m1 t0 t1 first mk0 (DI b i) b → BI N m0 m1 t0 t1 first mk0 (fun _ _ => True) b := fun i b hi h => h.less fun x j hx _ => by
    obtain ⟨q, hq, e⟩ := List.getElem_of_mem hx
    exact ⟨q, by exact om17 hi hq, by rw [List.getElem?_eq_getElem hq, e]⟩
  intro f
  induction f with
  | zero =>
    intro i b hf h
    exact ⟨⟨[], (List.append_nil _).symm⟩, fin i b (by have := h.toBInv.rlen; exact om16 hf this) h⟩
  | succ f ih =>
    intro i b hf h
    unfold P.bfs
    by_cases hi : i < b.row.length
    · rw [if_pos hi]
      have hx : b.row.getD i 0 ∈ b.row := by simp [List.getD_eq_getElem?_getD, hi]
      have hxi : b.row[i]? = some (b.row.getD i 0) := by rw [List.getD_eq_getElem?_getD, List.getElem?_eq_getElem hi]; rfl
      generalize b.row.getD i 0 = x at hx hxi
      obtain ⟨a, l1, e1⟩ := h.step h0 h1 u0 u1 (fun y k ⟨q, _, e⟩ => List.mem_of_getElem? e) hold hx false
      have e1 : (stepK m0 t0 x b).row = b.row ++ l1 := e1
      have a : BI N m0 m1 t0 t1 first mk0 (fun y k => DI b i y k ∨ (y = x ∧ k = false)) (stepK m0 t0 x b) := a
      have hx1 : x ∈ (stepK m0 t0 x b).row := by rw [e1]; exact List.mem_append_left _ hx
      obtain ⟨c, l2, e2⟩ := a.step h0 h1 u0 u1 (fun y k hd => by
        rw [e1]
        rcases hd with ⟨q, _, e⟩ | ⟨rfl, _⟩
        · exact List.mem_append_left _ (List.mem_of_getElem? e)
        · exact List.mem_append_left _ hx) hold hx1 true
      have e2 : (stepB m0 m1 t0 t1 x b).row = b.row ++ (l1 ++ l2) := by rw [← List.append_assoc, ← e1]; exact e2
      have c : BI N m0 m1 t0 t1 first mk0 _ (stepB m0 m1 t0 t1 x b) := c
      obtain ⟨⟨l3, e3⟩, d⟩ := ih (i + 1) (stepB m0 m1 t0 t1 x b) (by exact om15 hf) (c.less fun y k _ ⟨q, hq, e⟩ => by
        rw [e2] at e
        rcases Nat.lt_succ_iff_lt_or_eq.mp hq with hq | rfl
        · rw [List.getElem?_append_left (by exact om14 hi hq)] at e
          exact .inl (.inl ⟨q, hq, e⟩)
        · rw [List.getElem?_append_left hi, hxi] at e
          cases e
          cases k
          · exact .inl (.inr ⟨rfl, rfl⟩)
          · exact .inr ⟨rfl, rfl⟩)
      exact ⟨⟨l1 ++ l2 ++ l3, by rw [e3, e2, List.append_assoc]⟩, d⟩
    · rw [if_neg hi]
      exact ⟨⟨[], (List.append_nil _).symm⟩, fin i b hi h⟩

structure KI (N : Nat) (m0 m1 : List Nat) (t0 t1 : Int) (cs : List Nat) (own : Nat → Nat) (i : Nat) (st : List Int × List Kind) : Prop where
  inv : MInv N st.1
  upto : ∀ f, f < i → st.1.getD f 0 ≠ 0
  ownr : ∀ x, x < N → st.1.getD x 0 ≠ 0 → Reach (mf m0 m1) (tf t0 t1) (own x) x (st.1.getD x 0) ∧ own x < N ∧ st.1.getD (own x) 0 ≠ 0 ∧ own (own x) = own x
  closed : ∀ x, x < N → st.1.getD x 0 ≠ 0 → ∀ j, st.1.getD (mf m0 m1 j x) 0 ≠ 0 ∧ own (mf m0 m1 j x) = own x
  sg1 : ∀ x, x < N → st.1.getD x 0 ≠ 0 → own x = x → st.1.getD x 0 = 1
  kinds : ∀ k ∈ st.2, k.1 < N ∧ st.1.getD k.1 0 ≠ 0 ∧ own k.1 = k.1 ∧ k.2.1 = cs.getD k.1 0
  reps : ∀ x, x < N → st.1.getD x 0 ≠ 0 → own x = x → x ∈ st.2.map (·.1)
  great : ∀ k ∈ st.2, k.2.2 = true → ∀ x, x < N → st.1.getD x 0 ≠ 0 → own x = k.1 → ∀ j, st.1.getD (mf m0 m1 j x) 0 = st.1.getD x 0 * tf t0 t1 j
  bad : ∀ k ∈ st.2, k.2.2 = false → ∃ x j, x < N ∧ st.1.getD x 0 ≠ 0 ∧ own x = k.1 ∧ st.1.getD (mf m0 m1 j x) 0 ≠ st.1.getD x 0 * tf t0 t1 j
  nd : (st.2.map (·.1)).Nodup
theorem KI.step {N : Nat} {m0 m1 : List Nat} {t0 t1 : Int} {cs : List Nat} {own : Nat → Nat} {i : Nat} {st : List Int × List Kind} (h : KI N m0 m1 t0 t1 cs own i st) (h0 : Mv N m0) (h1 : Mv N m1) (u0 : unit t0) (u1 : unit t1)
    (hi : ∀ j x y, x < N → y < N → mf m0 m1 j x = mf m0 m1 j y → x = y) (hiN : i < N) : ∃ own', KI N m0 m1 t0 t1 cs own' (i + 1) (kindStep m0 m1 t0 t1 cs N st i) := by
  have hmN : ∀ j x, x < N → mf m0 m1 j x < N := fun j x hx => by cases j; exact h0.lt x hx; exact h1.lt x hx
  unfold kindStep
  by_cases hz : st.1.getD i 0 = 0
  · rw [if_pos hz]
    have hold : ∀ j x, x < N → st.1.getD (mf m0 m1 j x) 0 ≠ 0 → st.1.getD x 0 ≠ 0 := fun j x hx hc =>
      compl_closed (C := fun x => st.1.getD x 0 ≠ 0) (hmN j) (hi j) (fun y hy hc => (h.closed y hy hc j).1) hx hc
    have gm : ∀ y, y ≠ i → (st.1.set i 1).getD y 0 = st.1.getD y 0 := fun y hy => getD_set_ne _ _ _ (Ne.symm hy)
    have gi : (st.1.set i 1).getD i 0 = 1 := getD_set_eq _ _ _ _ (by rw [h.inv.len]; exact hiN)
    have start : BI N m0 m1 t0 t1 i st.1 (DI ⟨st.1.set i 1, [i], true⟩ 0) ⟨st.1.set i 1, [i], true⟩ := by
      refine ⟨BInv.start h.inv hiN hz, fun x hx => ?_, fun x hx => gm x fun q => hx (q ▸ hz), fun x hx => ?_, fun x hx => ?_, fun x j _ ⟨q, hq, _⟩ => absurd hq (Nat.not_lt_zero _), fun _ x j _ ⟨q, hq, _⟩ => absurd hq (Nat.not_lt_zero _), ⟨List.mem_cons_self, gi⟩, fun g => nomatch g⟩
      · show (st.1.set i 1).getD x 0 ≠ 0 ↔ (_ ∨ x ∈ [i])
        by_cases q : x = i
        · subst q
          rw [gi]
          exact ⟨fun _ => .inr List.mem_cons_self, fun _ => by decide⟩
        · rw [gm x q, List.mem_singleton]
          exact ⟨.inl, fun o => o.elim id fun o => absurd o q⟩
      · rw [List.mem_singleton.mp hx]; exact hz
      · show Reach _ _ _ _ ((st.1.set i 1).getD x 0)
        rw [List.mem_singleton.mp hx, gi]; exact .refl
    obtain ⟨⟨l, el⟩, B⟩ := BI.bfs h0 h1 u0 u1 hold N 0 ⟨st.1.set i 1, [i], true⟩ (by omega) start
    generalize bfs m0 m1 t0 t1 N 0 ⟨st.1.set i 1, [i], true⟩ = b at el B
    have oldrow : ∀ x, st.1.getD x 0 ≠ 0 → x ∉ b.row := fun x hx q => hx (B.new x q)
    have key : ∀ x, x < N → b.mark.getD x 0 ≠ 0 → (st.1.getD x 0 ≠ 0 ∧ x ∉ b.row ∧ b.mark.getD x 0 = st.1.getD x 0) ∨ x ∈ b.row := fun x hx hc => by
      rcases (B.mks x hx).mp hc with q | q
      · exact .inl ⟨q, oldrow x q, B.same x q⟩
      · exact .inr q
    have op : ∀ x, x ∈ b.row → (if x ∈ b.row then i else own x) = i := fun x hx => if_pos hx
    have on : ∀ x, x ∉ b.row → (if x ∈ b.row then i else own x) = own x := fun x hx => if_neg hx
    refine ⟨fun x => if x ∈ b.row then i else own x, B.toMInv, fun f hf => ?_, fun x hx hc => ?_, fun x hx hc j => ?_, fun x hx hc ho => ?_, fun k hk => ?_, fun x hx hc ho => ?_, fun k hk hg x hx hc ho j => ?_, fun k hk hg => ?_, ?_⟩
    · show b.mark.getD f 0 ≠ 0
      rcases Nat.lt_succ_iff_lt_or_eq.mp hf with hf | rfl
      · exact (B.mks f (by exact om14 hiN hf)).mpr (.inl (h.upto f hf))
      · exact (B.mks f hiN).mpr (.inr B.fst.1)
    · show Reach _ _ (if x ∈ b.row then i else own x) x (b.mark.getD x 0) ∧ (if x ∈ b.row then i else own x) < N ∧ b.mark.getD (if x ∈ b.row then i else own x) 0 ≠ 0 ∧ (if (if x ∈ b.row then i else own x) ∈ b.row then i else own (if x ∈ b.row then i else own x)) = (if x ∈ b.row then i else own x)
      rcases key x hx hc with ⟨q1, q2, q3⟩ | q
      · rw [on x q2, q3]
        obtain ⟨a1, a2, a3, a4⟩ := h.ownr x hx q1
        exact ⟨a1, a2, (B.mks _ a2).mpr (.inl a3), by rw [on _ (oldrow _ a3)]; exact a4⟩
      · rw [op x q]
        exact ⟨B.reach x q, hiN, (B.mks _ hiN).mpr (.inr B.fst.1), op i B.fst.1⟩
    · show b.mark.getD _ 0 ≠ 0 ∧ (if mf m0 m1 j x ∈ b.row then i else own (mf m0 m1 j x)) = (if x ∈ b.row then i else own x)
      rcases key x hx hc with ⟨q1, q2, q3⟩ | q
      · obtain ⟨a1, a2⟩ := h.closed x hx q1 j
        exact ⟨(B.mks _ (hmN j x hx)).mpr (.inl a1), by rw [on x q2, on _ (oldrow _ a1)]; exact a2⟩
      · have := B.done x j q trivial
        exact ⟨(B.mks _ (hmN j x hx)).mpr (.inr this), by rw [op x q, op _ this]⟩
    · show b.mark.getD x 0 = 1
      rcases key x hx hc with ⟨q1, q2, q3⟩ | q
      · have ho : (if x ∈ b.row then i else own x) = x := ho
        rw [on x q2] at ho
        rw [q3]; exact h.sg1 x hx q1 ho
      · have ho : (if x ∈ b.row then i else own x) = x := ho
        rw [op x q] at ho
        rw [← ho]; exact B.fst.2
    · show k.1 < N ∧ b.mark.getD k.1 0 ≠ 0 ∧ (if k.1 ∈ b.row then i else own k.1) = k.1 ∧ _
      rcases List.mem_append.mp hk with hk | hk
      · obtain ⟨a1, a2, a3, a4⟩ := h.kinds k hk
        exact ⟨a1, (B.mks _ a1).mpr (.inl a2), by rw [on _ (oldrow _ a2)]; exact a3, a4⟩
      · rw [List.mem_singleton.mp hk]
        exact ⟨hiN, (B.mks _ hiN).mpr (.inr B.fst.1), op i B.fst.1, rfl⟩
    · show x ∈ List.map (fun k : Kind => k.1) (st.2 ++ [(i, cs.getD i 0, b.great)])
      have ho : (if x ∈ b.row then i else own x) = x := ho
      rw [List.map_append, List.mem_append]
      rcases key x hx hc with ⟨q1, q2, q3⟩ | q
      · rw [on x q2] at ho
        exact .inl (h.reps x hx q1 ho)
      · rw [op x q] at ho
        exact .inr (by rw [← ho]; exact List.mem_cons_self)
    · show b.mark.getD _ 0 = b.mark.getD x 0 * _
      have ho : (if x ∈ b.row then i else own x) = k.1 := ho
      rcases List.mem_append.mp hk with hk | hk
      · obtain ⟨a1, a2, a3, a4⟩ := h.kinds k hk
        rcases key x hx hc with ⟨q1, q2, q3⟩ | q
        · rw [on x q2] at ho
          rw [q3, B.same _ (h.closed x hx q1 j).1]
          exact h.great k hk hg x hx q1 ho j
        · rw [op x q] at ho
          rw [← ho] at a2; exact absurd hz a2
      · rw [List.mem_singleton.mp hk] at ho hg
        have ho : (if x ∈ b.row then i else own x) = i := ho
        rcases key x hx hc with ⟨q1, q2, q3⟩ | q
        · rw [on x q2] at ho
          have := (h.ownr x hx q1).2.2.1
          rw [ho] at this; exact absurd hz this
        · exact B.ok hg x j q trivial
    · show ∃ x j, x < N ∧ b.mark.getD x 0 ≠ 0 ∧ (if x ∈ b.row then i else own x) = k.1 ∧ b.mark.getD _ 0 ≠ b.mark.getD x 0 * _
      rcases List.mem_append.mp hk with hk | hk
      · obtain ⟨x, j, a1, a2, a3, a4⟩ := h.bad k hk hg
        refine ⟨x, j, a1, (B.mks x a1).mpr (.inl a2), by rw [on x (oldrow x a2)]; exact a3, ?_⟩
        rw [B.same x a2, B.same _ (h.closed x a1 a2 j).1]
        exact a4
      · rw [List.mem_singleton.mp hk] at hg ⊢
        obtain ⟨x, j, a1, a2, a3⟩ := B.ko hg
        exact ⟨x, j, (B.row x a1).1, (B.row x a1).2, op x a1, a3⟩
    · show (List.map (fun k : Kind => k.1) (st.2 ++ [(i, cs.getD i 0, b.great)])).Nodup
      rw [List.map_append, List.nodup_append]
      refine ⟨h.nd, by simp, fun a ha c hc e => ?_⟩
      obtain ⟨k, hk, rfl⟩ := List.mem_map.mp ha
      have hc : c ∈ [i] := hc
      rw [List.mem_singleton.mp hc] at e
      have := (h.kinds k hk).2.1
      rw [e] at this; exact this hz
  · rw [if_neg hz]
    refine ⟨own, h.inv, fun f hf => ?_, h.ownr, h.closed, h.sg1, h.kinds, h.reps, h.great, h.bad, h.nd⟩
    rcases Nat.lt_succ_iff_lt_or_eq.mp hf with hf | rfl
    · exact h.upto f hf
    · exact hz
theorem KI.all {N : Nat} {m0 m1 : List Nat} {t0 t1 : Int} {cs : List Nat} (h0 : Mv N m0) (h1 : Mv N m1) (u0 : unit t0) (u1 : unit t1) (hi : ∀ j x y, x < N → y < N → mf m0 m1 j x = mf m0 m1 j y → x = y) :
    ∀ i, i ≤ N → ∃ own, KI N m0 m1 t0 t1 cs own i ((List.range i).foldl (kindStep m0 m1 t0 t1 cs N) (List.replicate N 0, [])) := by
  intro i
  induction i with
  | zero =>
    intro _
    have z : ∀ x, (List.replicate N (0 : Int)).getD x 0 = 0 := fun x => by
      simp [List.getD_eq_getElem?_getD, List.getElem?_replicate]; split <;> rfl
    exact ⟨id, ⟨⟨by simp, fun x hx => .inl (List.eq_of_mem_replicate hx)⟩, fun f hf => absurd hf (Nat.not_lt_zero _), fun x _ hc => absurd (z x) hc, fun x _ hc => absurd (z x) hc, fun x _ hc => absurd (z x) hc, fun k hk => (nomatch hk), fun x _ hc => absurd (z x) hc, fun k hk => (nomatch hk), fun k hk => (nomatch hk), List.nodup_nil⟩⟩
  | succ i ih =>
    intro hiN
    obtain ⟨own, h⟩ := ih (by exact om13 hiN)
    rw [List.range_succ, List.foldl_append, List.foldl_cons, List.foldl_nil]
    exact h.step h0 h1 u0 u1 hi (by exact om4 hiN)
end Mine
end

section
set_option autoImplicit false
namespace Mine
open P
structure KindsAll (N n : Nat) (m0 m1 : List Nat) (t0 t1 : Int) (ks : List Kind) (own : Nat → Nat) (sg : Nat → Int) : Prop where
  twist : Sys N (mf m0 m1) (tf t0 t1) own sg fun r => ∃ k ∈ ks, k.1 = r ∧ k.2.2 = true
  plain : Sys N (mf m0 m1) (fun _ => 1) own (fun _ => 1) fun _ => True
  kinds : ∀ k ∈ ks, k.1 < N ∧ own k.1 = k.1 ∧ k.2.1 = (cnt n).getD k.1 0
  ownr : ∀ x, x < N → own x < N ∧ own (own x) = own x ∧ own x ∈ ks.map fun k => k.1
  nd : (ks.map fun k => k.1).Nodup
  inv : ∀ f : Nat → Nat, (∀ j x, x < N → f (mf m0 m1 j x) = f x) → ∀ x, x < N → f (own x) = f x
theorem kinds_all {n : Nat} {m0 m1 : List Nat} {t0 t1 : Int} (h0 : Mv (2 ^ n) m0) (h1 : Mv (2 ^ n) m1) (u0 : unit t0) (u1 : unit t1) (hi : ∀ j x y, x < 2 ^ n → y < 2 ^ n → mf m0 m1 j x = mf m0 m1 j y → x = y) :
    ∃ own sg, KindsAll (2 ^ n) n m0 m1 t0 t1 (kindsL m0 m1 t0 t1 n) own sg := by
  obtain ⟨own, h⟩ := KI.all (cs := cnt n) h0 h1 u0 u1 hi (2 ^ n) (Nat.le_refl _)
  have hmN : ∀ j x, x < 2 ^ n → mf m0 m1 j x < 2 ^ n := fun j x hx => by cases j; exact h0.lt x hx; exact h1.lt x hx
  have e : kindsL m0 m1 t0 t1 n = ((List.range (2 ^ n)).foldl (kindStep m0 m1 t0 t1 (cnt n) (2 ^ n)) (List.replicate (2 ^ n) 0, [])).2 := rfl
  rw [e]
  generalize (List.range (2 ^ n)).foldl (kindStep m0 m1 t0 t1 (cnt n) (2 ^ n)) (List.replicate (2 ^ n) 0, []) = st at h
  have all : ∀ x, x < 2 ^ n → st.1.getD x 0 ≠ 0 := h.upto
  have oN : ∀ x, x < 2 ^ n → own x < 2 ^ n := fun x hx => (h.ownr x hx (all x hx)).2.1
  have oo : ∀ x, x < 2 ^ n → own (own x) = own x := fun x hx => (h.ownr x hx (all x hx)).2.2.2
  have om : ∀ j x, x < 2 ^ n → own (mf m0 m1 j x) = own x := fun j x hx => (h.closed x hx (all x hx) j).2
  have orep : ∀ x, x < 2 ^ n → ∃ k ∈ st.2, k.1 = own x := fun x hx => by
    have := h.reps (own x) (oN x hx) (all _ (oN x hx)) (oo x hx)
    obtain ⟨k, hk, e⟩ := List.mem_map.mp this
    exact ⟨k, hk, e⟩
  refine ⟨own, fun x => st.1.getD x 0, ⟨fun x hx ho => h.sg1 x hx (all x hx) ho, fun r hr ho hg j x hx => ?_, fun f hf x hx => ?_, fun f hf x hx hg => ?_⟩, ⟨fun _ _ _ => rfl, fun r hr ho _ j x hx => ?_, fun f hf x hx => ?_, fun _ _ _ _ hg => absurd trivial hg⟩, fun k hk => ?_, fun x hx => ⟨oN x hx, oo x hx, ?_⟩, h.nd, fun f hf x hx => ?_⟩
  · obtain ⟨k, hk, rfl, hkg⟩ := hg
    show (if own (mf m0 m1 j x) = k.1 then st.1.getD (mf m0 m1 j x) 0 else 0) = tf t0 t1 j * if own x = k.1 then st.1.getD x 0 else 0
    rw [om j x hx]
    by_cases q : own x = k.1
    · rw [if_pos q, if_pos q, h.great k hk hkg x hx (all x hx) q j, Int.mul_comm]
    · rw [if_neg q, if_neg q, Int.mul_zero]
  · exact ((h.ownr x hx (all x hx)).1.semi hmN (oN x hx)).2 f hf
  · obtain ⟨k, hk, ek⟩ := orep x hx
    have kb : k.2.2 = false := by
      cases q : k.2.2
      · rfl
      · exact absurd ⟨k, hk, ek, q⟩ hg
    obtain ⟨y, j, hy, hy0, hyo, hne⟩ := h.bad k hk kb
    have d : ∀ z, z < 2 ^ n → f z = st.1.getD z 0 * f (own z) := fun z hz => ((h.ownr z hz (all z hz)).1.semi hmN (oN z hz)).2 f hf
    have e1 := hf j y hy
    rw [d _ (hmN j y hy), om j y hy, d y hy, hyo, ek, ← Int.mul_assoc] at e1
    have e2 : (st.1.getD (mf m0 m1 j y) 0 - st.1.getD y 0 * tf t0 t1 j) * f (own x) = 0 := by
      rw [Int.sub_mul, e1, Int.mul_comm (st.1.getD y 0), Int.sub_self]
    rcases Int.mul_eq_zero.mp e2 with q | q
    · exact absurd (by exact om26 q) hne
    · exact q
  · show (if own (mf m0 m1 j x) = r then (1 : Int) else 0) = 1 * if own x = r then (1 : Int) else 0
    rw [om j x hx, Int.one_mul]
  · rw [Int.one_mul]
    exact (h.ownr x hx (all x hx)).1.plain hmN (oN x hx) f hf
  · obtain ⟨a1, _, a3, a4⟩ := h.kinds k hk
    exact ⟨a1, a3, a4⟩
  · obtain ⟨k, hk, ek⟩ := orep x hx
    exact List.mem_map.mpr ⟨k, hk, ek⟩
  · exact ((h.ownr x hx (all x hx)).1.inv hmN (oN x hx) f hf).symm

-- moved rows, bit by bit
theorem bit_add : ∀ v : Nat, v < 64 → ∀ p : Nat, p < 6 → v.testBit p = false → v + 2 ^ p < 64 ∧ ∀ j : Nat, j < 6 → (v + 2 ^ p).testBit j = (v.testBit j || decide (p = j)) := by decide +kernel
theorem moved_bits : ∀ (k : Nat) (l : List Nat), l.length = k → l.Nodup → (∀ p ∈ l, p < 6) → ∀ x, x < 2 ^ k → (movedL l).getD x 0 < 64 ∧ ∀ j, j < 6 → (((movedL l).getD x 0).testBit j = true ↔ ∃ i, l[i]? = some j ∧ x.testBit i = true) := by
  intro k
  induction k with
  | zero =>
    intro l hl _ _ x hx
    have : l = [] := List.eq_nil_of_length_eq_zero hl
    subst this
    have hx : x = 0 := by exact om25 hx
    subst hx
    refine ⟨by decide, fun j hj => ?_⟩
    have : ((movedL []).getD 0 0) = 0 := rfl
    rw [this, Nat.zero_testBit]
    exact ⟨fun h => (nomatch h), fun ⟨i, h, _⟩ => by simp at h⟩
  | succ k ih =>
    intro l hl hn hb x hx
    obtain ⟨l', p, rfl⟩ : ∃ l' p, l = l' ++ [p] := by
      rcases List.eq_nil_or_concat l with rfl | ⟨l', p, e⟩
      · simp at hl
      · exact ⟨l', p, by rw [e]; simp⟩
    have hl' : l'.length = k := by simpa using hl
    rw [List.nodup_append] at hn
    have hpl : p ∉ l' := fun q => hn.2.2 p q p List.mem_cons_self rfl
    have hp6 : p < 6 := hb p (by simp)
    have ih := ih l' hl' hn.1 fun q hq => hb q (List.mem_append_left _ hq)
    have hml : (movedL l').length = 2 ^ k := by rw [movedL_length, hl']
    rw [movedL_snoc]
    by_cases hxk : x < 2 ^ k
    · obtain ⟨a, b⟩ := ih x hxk
      have e : (movedL l' ++ (movedL l').map (· + 2 ^ p)).getD x 0 = (movedL l').getD x 0 := by
        rw [List.getD_eq_getElem?_getD, List.getD_eq_getElem?_getD, List.getElem?_append_left (by omega)]
      rw [e]
      refine ⟨a, fun j hj => (b j hj).trans ⟨fun ⟨i, h1, h2⟩ => ⟨i, by rw [List.getElem?_append_left (List.getElem?_eq_some_iff.mp h1).1]; exact h1, h2⟩, fun ⟨i, h1, h2⟩ => ?_⟩⟩
      rcases Nat.lt_or_ge i l'.length with hi | hi
      · rw [List.getElem?_append_left hi] at h1
        exact ⟨i, h1, h2⟩
      · have : x.testBit i = false := Nat.testBit_lt_two_pow (Nat.lt_of_lt_of_le hxk (Nat.pow_le_pow_right (by decide) (by omega)))
        rw [this] at h2; cases h2
    · obtain ⟨y, rfl⟩ : ∃ y, x = 2 ^ k + y := ⟨x - 2 ^ k, by exact om24 hxk⟩
      have hy : y < 2 ^ k := by rw [Nat.pow_succ] at hx; exact om23 hx
      obtain ⟨a, b⟩ := ih y hy
      have e : (movedL l' ++ (movedL l').map (· + 2 ^ p)).getD (2 ^ k + y) 0 = (movedL l').getD y 0 + 2 ^ p := by
        rw [List.getD_eq_getElem?_getD, List.getD_eq_getElem?_getD, List.getElem?_append_right (by exact om22 hml), hml, Nat.add_sub_cancel_left, List.getElem?_map, List.getElem?_eq_getElem (by exact om21 hml hy)]
        rfl
      rw [e]
      have hvp : ((movedL l').getD y 0).testBit p = false := by
        cases q : ((movedL l').getD y 0).testBit p
        · rfl
        · obtain ⟨i, h1, _⟩ := (b p hp6).mp q
          exact absurd (List.mem_of_getElem? h1) hpl
      generalize (movedL l').getD y 0 = v at a b hvp
      obtain ⟨c, d⟩ := bit_add v a p hp6 hvp
      refine ⟨c, fun j hj => ?_⟩
      rw [d j hj, Bool.or_eq_true, decide_eq_true_eq]
      constructor
      · rintro (h | rfl)
        · obtain ⟨i, h1, h2⟩ := (b j hj).mp h
          have hi := (List.getElem?_eq_some_iff.mp h1).1
          exact ⟨i, by rw [List.getElem?_append_left hi]; exact h1, by rw [Nat.testBit_two_pow_add_gt (by exact om19 hl' hi)]; exact h2⟩
        · exact ⟨k, by rw [List.getElem?_append_right (by exact om20 hl'), hl', Nat.sub_self]; rfl, by rw [Nat.testBit_two_pow_add_eq, Nat.testBit_lt_two_pow hy]; rfl⟩
      · rintro ⟨i, h1, h2⟩
        rcases Nat.lt_or_ge i l'.length with hi | hi
        · rw [List.getElem?_append_left hi] at h1
          rw [Nat.testBit_two_pow_add_gt (by exact om19 hl' hi)] at h2
          exact .inl ((b j hj).mpr ⟨i, h1, h2⟩)
        · have hi2 : i < (l' ++ [p]).length := (List.getElem?_eq_some_iff.mp h1).1
          rw [List.length_append, List.length_singleton] at hi2
          have : i = l'.length := by exact om18 hi hi2
          subst this
          rw [List.getElem?_append_right (Nat.le_refl _), Nat.sub_self] at h1
          exact .inr (Option.some.inj h1)
end Mine
end

section
set_option autoImplicit false
namespace Mine
open P
def pc (n x : Nat) : Nat := (cnt n).getD x 0
theorem sub_iff (x y : Nat) : x &&& y = x ↔ ∀ i, x.testBit i = true → y.testBit i = true := by
  constructor
  · intro h i hi
    rw [← h, Nat.testBit_and, Bool.and_eq_true] at hi
    exact hi.2
  · intro h
    refine Nat.eq_of_testBit_eq fun i => ?_
    rw [Nat.testBit_and]
    cases q : x.testBit i
    · rfl
    · rw [h i q]; rfl
theorem pc_bits {n : Nat} (hn : n = 5 ∨ n = 6) : ∀ x, x < 2 ^ n → pc n x = (List.range n).countP fun i => x.testBit i := by
  rcases hn with rfl | rfl
  · have : ∀ x, x < 32 → pc 5 x = (List.range 5).countP fun i => x.testBit i := by decide +kernel
    exact this
  · have : ∀ x, x < 64 → pc 6 x = (List.range 6).countP fun i => x.testBit i := by decide +kernel
    exact this
/-- a move of the rows by a permutation of the places -/
structure Mov (n : Nat) (m : Nat → Nat) : Prop where
  lt : ∀ x, x < 2 ^ n → m x < 2 ^ n
  inj : ∀ x y, x < 2 ^ n → y < 2 ^ n → m x = m y → x = y
  sub : ∀ x y, x < 2 ^ n → y < 2 ^ n → (m x &&& m y = m x ↔ x &&& y = x)
  compl : ∀ x, x < 2 ^ n → m (2 ^ n - (x + 1)) = 2 ^ n - (m x + 1)
  pc : ∀ x, x < 2 ^ n → pc n (m x) = pc n x
theorem mov_of {n : Nat} (hn : n = 5 ∨ n = 6) {l : List Nat} (hp : l.Perm (List.range n)) : Mov n fun x => (movedL l).getD x 0 := by
  have hlen : l.length = n := by rw [hp.length_eq, List.length_range]
  have hnd : l.Nodup := hp.nodup_iff.mpr List.nodup_range
  have hmem : ∀ p, p ∈ l ↔ p < n := fun p => by rw [hp.mem_iff, List.mem_range]
  have b := fun x hx => moved_bits n l hlen hnd (fun p q => by have := (hmem p).mp q; exact om32 hn this) x hx
  have bit : ∀ x, x < 2 ^ n → ∀ j, ((movedL l).getD x 0).testBit j = true ↔ ∃ i, l[i]? = some j ∧ x.testBit i = true := by
    intro x hx j
    rcases Nat.lt_or_ge j 6 with hj | hj
    · exact (b x hx).2 j hj
    · have : ((movedL l).getD x 0).testBit j = false := Nat.testBit_lt_two_pow (Nat.lt_of_lt_of_le (b x hx).1 (Nat.le_trans (by decide : 64 ≤ 2 ^ 6) (Nat.pow_le_pow_right (by decide) hj)))
      rw [this]
      exact ⟨fun h => (nomatch h), fun ⟨i, h1, _⟩ => by
        have := (hmem j).mp (List.mem_of_getElem? h1)
        exact (om31 hn hj this).elim⟩
  have at' : ∀ x, x < 2 ^ n → ∀ i j, l[i]? = some j → ((movedL l).getD x 0).testBit j = x.testBit i := by
    intro x hx i j hij
    have h1 := bit x hx j
    cases q : x.testBit i
    · cases q2 : ((movedL l).getD x 0).testBit j
      · rfl
      · obtain ⟨i', h2, h3⟩ := h1.mp q2
        have : i' = i := by
          have e := h2.trans hij.symm
          exact (List.getElem?_inj (List.getElem?_eq_some_iff.mp h2).1 hnd).mp e
        rw [this, q] at h3; cases h3
    · exact h1.mpr ⟨i, hij, q⟩
  have off : ∀ x, x < 2 ^ n → ∀ j, n ≤ j → ((movedL l).getD x 0).testBit j = false := by
    intro x hx j hj
    cases q : ((movedL l).getD x 0).testBit j
    · rfl
    · obtain ⟨i, h1, _⟩ := (bit x hx j).mp q
      have := (hmem j).mp (List.mem_of_getElem? h1)
      exact (om30 hj this).elim
  have place : ∀ j, j < n → ∃ i, l[i]? = some j := fun j hj => by
    obtain ⟨i, hi, e⟩ := List.getElem_of_mem ((hmem j).mpr hj)
    exact ⟨i, by rw [List.getElem?_eq_getElem hi, e]⟩
  have val : ∀ i, i < n → ∃ j, l[i]? = some j ∧ j < n := fun i hi => ⟨l[i], List.getElem?_eq_getElem (by exact om21 hlen hi), (hmem _).mp (List.getElem_mem _)⟩
  have xoff : ∀ x, x < 2 ^ n → ∀ i, n ≤ i → x.testBit i = false := fun x hx i hi => Nat.testBit_lt_two_pow (Nat.lt_of_lt_of_le hx (Nat.pow_le_pow_right (by decide) hi))
  have hlt : ∀ x, x < 2 ^ n → (movedL l).getD x 0 < 2 ^ n := fun x hx => Nat.lt_pow_two_of_testBit _ fun i hi => off x hx i hi
  refine ⟨hlt, fun x y hx hy e => ?_, fun x y hx hy => ?_, fun x hx => ?_, fun x hx => ?_⟩
  · refine Nat.eq_of_testBit_eq fun i => ?_
    rcases Nat.lt_or_ge i n with hi | hi
    · obtain ⟨j, hj, _⟩ := val i hi
      have e : (movedL l).getD x 0 = (movedL l).getD y 0 := e
      rw [← at' x hx i j hj, ← at' y hy i j hj, e]
    · rw [xoff x hx i hi, xoff y hy i hi]
  · show (movedL l).getD x 0 &&& (movedL l).getD y 0 = (movedL l).getD x 0 ↔ _
    rw [sub_iff, sub_iff]
    constructor
    · intro h i hi
      rcases Nat.lt_or_ge i n with hin | hin
      · obtain ⟨j, hj, _⟩ := val i hin
        rw [← at' y hy i j hj]
        exact h j (by rw [at' x hx i j hj]; exact hi)
      · rw [xoff x hx i hin] at hi; cases hi
    · intro h j hj
      obtain ⟨i, h1, h2⟩ := (bit x hx j).mp hj
      exact (bit y hy j).mpr ⟨i, h1, h i h2⟩
  · show (movedL l).getD (2 ^ n - (x + 1)) 0 = 2 ^ n - ((movedL l).getD x 0 + 1)
    have hc : 2 ^ n - (x + 1) < 2 ^ n := by have := Nat.two_pow_pos n; exact om29 this
    refine Nat.eq_of_testBit_eq fun j => ?_
    rw [Nat.testBit_two_pow_sub_succ (hlt x hx)]
    rcases Nat.lt_or_ge j n with hj | hj
    · obtain ⟨i, hi⟩ := place j hj
      have hin : i < n := by have := (List.getElem?_eq_some_iff.mp hi).1; exact om19 hlen this
      rw [at' _ hc i j hi, Nat.testBit_two_pow_sub_succ hx, at' x hx i j hi, decide_eq_true hin, decide_eq_true hj]
    · rw [off _ hc j hj, decide_eq_false (by exact om28 hj), Bool.false_and]
  · show Mine.pc n ((movedL l).getD x 0) = _
    rw [pc_bits hn _ (hlt x hx), pc_bits hn x hx, ← hp.countP_eq]
    have el : l = (List.range n).map fun i => l.getD i 0 := by
      apply List.ext_getElem?
      intro i
      rw [List.getElem?_map]
      rcases Nat.lt_or_ge i n with hi | hi
      · rw [List.getElem?_range hi, List.getElem?_eq_getElem (by exact om21 hlen hi)]
        simp [List.getD_eq_getElem?_getD, hlen, hi]
      · rw [List.getElem?_eq_none (by exact om27 hlen hi), List.getElem?_eq_none (by rw [List.length_range]; exact hi)]; rfl
    have key : ∀ q : Nat → Bool, l.countP q = (List.range n).countP fun i => q (l.getD i 0) := fun q => by
      conv => lhs; rw [el]
      rw [List.countP_map]; rfl
    rw [key]
    refine List.countP_congr fun i hi => ?_
    have hi := List.mem_range.mp hi
    obtain ⟨j, hj, _⟩ := val i hi
    have : l.getD i 0 = j := by rw [List.getD_eq_getElem?_getD, hj]; rfl
    rw [this, at' x hx i j hj]
-- weights
def wts : Nat → Nat → List Int
  | 5, 0 => [1]
  | 5, 1 => [-1, 3]
  | 5, _ => [2, -1, 2]
  | _, 0 => [1]
  | _, 1 => [-1, 4]
  | _, _ => [1, -1, 3]
def wt0 : Nat → Nat → Int
  | 5, 0 => 5
  | 5, 1 => 12
  | 5, _ => 6
  | _, 0 => 6
  | _, 1 => 20
  | _, _ => 12
def Lk (n k : Nat) : List Nat := (List.range (2 ^ n)).filter fun x => pc n x == k
theorem mem_Lk {n k x : Nat} : x ∈ Lk n k ↔ x < 2 ^ n ∧ pc n x = k := by
  unfold Lk
  rw [List.mem_filter, List.mem_range, beq_iff_eq]
theorem nd_Lk (n k : Nat) : (Lk n k).Nodup := List.nodup_range.filter _
def Kin (y x : Nat) : Int := if x &&& y = x then 1 else 0
def Kco (n : Nat) (y x : Nat) : Int := if x = 2 ^ n - (y + 1) then 1 else 0
set_option maxRecDepth 100000 in
theorem left_in : ∀ n ∈ [5, 6], ∀ k ∈ [0, 1, 2], (∀ x' ∈ Lk n k, ∀ x ∈ Lk n k, sm (Lk n (k + 1)) (fun y => (wts n k).getD (pc n (x' &&& y)) 0 * Kin y x) = if x = x' then wt0 n k else 0) ∧ wt0 n k ≠ 0 := by decide +kernel
set_option maxRecDepth 100000 in
theorem left_co : ∀ n ∈ [5, 6], ∀ k ∈ [0, 1, 2], (∀ x' ∈ Lk n k, ∀ x ∈ Lk n k, sm (Lk n (n - k)) (fun y => Kco n x' y * Kco n y x) = if x = x' then 1 else 0) ∧ ∀ x' ∈ Lk n (n - k), ∀ x ∈ Lk n (n - k), sm (Lk n k) (fun y => Kco n x' y * Kco n y x) = if x = x' then 1 else 0 := by decide +kernel
end Mine
end

section
set_option autoImplicit false
namespace Mine
open P
theorem rank_le {n : Nat} {m0 m1 : List Nat} {t0 t1 : Int} {ks : List Kind} {own : Nat → Nat} {sg : Nat → Int} (H : KindsAll (2 ^ n) n m0 m1 t0 t1 ks own sg) (hM : ∀ j, Mov n (mf m0 m1 j))
    {t' : Bool → Int} {sg' : Nat → Int} {good : Nat → Prop} (Y : Sys (2 ^ n) (mf m0 m1) t' own sg' good) (q : Kind → Bool) (g1 : ∀ k ∈ ks, q k = true → good k.1) (g2 : ∀ y, y < 2 ^ n → good (own y) → ∃ k ∈ ks, k.1 = own y ∧ q k = true)
    {a b : Nat} (K W : Nat → Nat → Int) (c0 : Int) (hK : ∀ j, ∀ y ∈ Lk n b, ∀ x ∈ Lk n a, K (mf m0 m1 j y) (mf m0 m1 j x) = K y x)
    (hW : ∀ x' ∈ Lk n a, ∀ x ∈ Lk n a, sm (Lk n b) (fun y => W x' y * K y x) = if x = x' then c0 else 0) (hc0 : c0 ≠ 0) :
    (ks.filter fun k => k.2.1 == a && q k).length ≤ (ks.filter fun k => k.2.1 == b && q k).length := by
  have pm : ∀ j x, x < 2 ^ n → pc n (mf m0 m1 j x) = pc n x := fun j x hx => (hM j).pc x hx
  have po : ∀ x, x < 2 ^ n → pc n (own x) = pc n x := H.inv (pc n) pm
  have sz : ∀ k ∈ ks, k.2.1 = pc n k.1 := fun k hk => (H.kinds k hk).2.2
  have := count_le Y (La := Lk n a) (Lb := Lk n b) (A := (ks.filter fun k => k.2.1 == a && q k).map fun k => k.1) (B := (ks.filter fun k => k.2.1 == b && q k).map fun k => k.1) K W c0
    (fun x hx => (mem_Lk.mp hx).1) (nd_Lk n a) (fun j x hx => mem_Lk.mpr ⟨(hM j).lt x (mem_Lk.mp hx).1, (pm j x (mem_Lk.mp hx).1).trans (mem_Lk.mp hx).2⟩)
    (fun j y hy => by rw [mem_Lk, mem_Lk, pm j y hy]; exact ⟨fun h => ⟨hy, h.2⟩, fun h => ⟨(hM j).lt y hy, h.2⟩⟩) (fun y hy => (mem_Lk.mp hy).1) (fun j x y hx hy e => (hM j).inj x y hx hy e) hK hW hc0
    ((List.filter_sublist.map _).nodup H.nd) (fun r hr => ?_) (fun y hy => ?_)
  · rw [List.length_map, List.length_map] at this
    exact this
  · obtain ⟨k, hk, rfl⟩ := List.mem_map.mp hr
    rw [List.mem_filter, Bool.and_eq_true, beq_iff_eq] at hk
    obtain ⟨hk, hka, hkq⟩ := hk
    exact ⟨mem_Lk.mpr ⟨(H.kinds k hk).1, by rw [← sz k hk]; exact hka⟩, (H.kinds k hk).2.1, g1 k hk hkq⟩
  · obtain ⟨hyN, hyb⟩ := mem_Lk.mp hy
    refine ⟨mem_Lk.mpr ⟨(H.ownr y hyN).1, by rw [po y hyN]; exact hyb⟩, fun hg => ?_⟩
    obtain ⟨k, hk, ek, hkq⟩ := g2 y hyN hg
    refine List.mem_map.mpr ⟨k, List.mem_filter.mpr ⟨hk, ?_⟩, ek⟩
    rw [Bool.and_eq_true, beq_iff_eq]
    exact ⟨by rw [sz k hk, ek, po y hyN]; exact hyb, hkq⟩
theorem rank_all {n : Nat} (hn : n = 5 ∨ n = 6) {m0 m1 : List Nat} {t0 t1 : Int} {ks : List Kind} {own : Nat → Nat} {sg : Nat → Int} (H : KindsAll (2 ^ n) n m0 m1 t0 t1 ks own sg) (hM : ∀ j, Mov n (mf m0 m1 j))
    {t' : Bool → Int} {sg' : Nat → Int} {good : Nat → Prop} (Y : Sys (2 ^ n) (mf m0 m1) t' own sg' good) (q : Kind → Bool) (g1 : ∀ k ∈ ks, q k = true → good k.1) (g2 : ∀ y, y < 2 ^ n → good (own y) → ∃ k ∈ ks, k.1 = own y ∧ q k = true) (k : Nat) (hk : k < 3) :
    (ks.filter fun x => x.2.1 == k && q x).length ≤ (ks.filter fun x => x.2.1 == k + 1 && q x).length ∧ (ks.filter fun x => x.2.1 == n - k && q x).length = (ks.filter fun x => x.2.1 == k && q x).length := by
  have hnm : n ∈ [5, 6] := by simp; exact hn
  have hkm : k ∈ [0, 1, 2] := by simp; exact om33 hk
  obtain ⟨w1, w2⟩ := left_in n hnm k hkm
  obtain ⟨w3, w4⟩ := left_co n hnm k hkm
  have hco : ∀ (a b : Nat) j, ∀ y ∈ Lk n b, ∀ x ∈ Lk n a, Kco n (mf m0 m1 j y) (mf m0 m1 j x) = Kco n y x := by
    intro a b j y hy x hx
    have hx := (mem_Lk.mp hx).1
    have hy := (mem_Lk.mp hy).1
    have hc : 2 ^ n - (y + 1) < 2 ^ n := by have := Nat.two_pow_pos n; exact om29 this
    have : (mf m0 m1 j x = 2 ^ n - (mf m0 m1 j y + 1)) ↔ x = 2 ^ n - (y + 1) := by
      rw [← (hM j).compl y hy]
      exact ⟨fun e => (hM j).inj x _ hx hc e, fun e => by rw [e]⟩
    unfold Kco
    by_cases e : x = 2 ^ n - (y + 1)
    · rw [if_pos e, if_pos (this.mpr e)]
    · rw [if_neg e, if_neg fun h => e (this.mp h)]
  refine ⟨rank_le H hM Y q g1 g2 Kin (fun x' y => (wts n k).getD (pc n (x' &&& y)) 0) (wt0 n k) (fun j y hy x hx => ?_) w1 w2, Nat.le_antisymm (rank_le H hM Y q g1 g2 (Kco n) (Kco n) 1 (hco _ _) w4 (by decide)) (rank_le H hM Y q g1 g2 (Kco n) (Kco n) 1 (hco _ _) w3 (by decide))⟩
  have := (hM j).sub x y (mem_Lk.mp hx).1 (mem_Lk.mp hy).1
  unfold Kin
  by_cases e : x &&& y = x
  · rw [if_pos e, if_pos (this.mpr e)]
  · rw [if_neg e, if_neg fun h => e (this.mp h)]
structure Ranks (n : Nat) (ks : List Kind) : Prop where
  few : ∀ k, k < 3 → (ks.filter fun x => x.2.1 == k).length ≤ (ks.filter fun x => x.2.1 == k + 1).length ∧ (ks.filter fun x => x.2.1 == n - k).length = (ks.filter fun x => x.2.1 == k).length ∧ 1 ≤ (ks.filter fun x => x.2.1 == k).length
  kept : ∀ k, k < 3 → (ks.filter fun x => x.2.1 == k && x.2.2).length ≤ (ks.filter fun x => x.2.1 == k + 1 && x.2.2).length ∧ (ks.filter fun x => x.2.1 == n - k && x.2.2).length = (ks.filter fun x => x.2.1 == k && x.2.2).length
theorem ranks {n : Nat} (hn : n = 5 ∨ n = 6) {m0 m1 : List Nat} {t0 t1 : Int} {ks : List Kind} {own : Nat → Nat} {sg : Nat → Int} (H : KindsAll (2 ^ n) n m0 m1 t0 t1 ks own sg) (hM : ∀ j, Mov n (mf m0 m1 j)) : Ranks n ks := by
  have pm : ∀ j x, x < 2 ^ n → pc n (mf m0 m1 j x) = pc n x := fun j x hx => (hM j).pc x hx
  refine ⟨fun k hk => ?_, fun k hk => rank_all hn H hM H.twist (fun x => x.2.2) (fun x hx h => ⟨x, hx, rfl, h⟩) (fun y _ hg => hg) k hk⟩
  have := rank_all hn H hM H.plain (fun _ => true) (fun _ _ _ => trivial) (fun y hy _ => by
    obtain ⟨x, hx, e⟩ := List.mem_map.mp (H.ownr y hy).2.2
    exact ⟨x, hx, e, rfl⟩) k hk
  simp only [Bool.and_true] at this
  refine ⟨this.1, this.2, ?_⟩
  have h0 : ∀ n ∈ [5, 6], ∀ k ∈ [0, 1, 2], 2 ^ k - 1 < 2 ^ n ∧ pc n (2 ^ k - 1) = k := by decide +kernel
  obtain ⟨a1, a2⟩ := h0 n (by simp; exact hn) k (by simp; exact om33 hk)
  obtain ⟨x, hx, e⟩ := List.mem_map.mp (H.ownr _ a1).2.2
  refine List.length_pos_iff_exists_mem.mpr ⟨x, List.mem_filter.mpr ⟨hx, beq_iff_eq.mpr ?_⟩⟩
  have e : x.1 = own (2 ^ k - 1) := e
  rw [(H.kinds x hx).2.2, e]
  exact (H.inv (pc n) pm _ a1).trans a2
end Mine
end

section
set_option autoImplicit false
namespace Mine
open P
theorem gd {l : List Nat} {i : Nat} (h : i < l.length) : l[i]? = some (l.getD i 0) := by
  rw [List.getD_eq_getElem?_getD, List.getElem?_eq_getElem h]; rfl
theorem gd_inj {l : List Nat} (hn : l.Nodup) {i j : Nat} (hi : i < l.length) (hj : j < l.length) (e : l.getD i 0 = l.getD j 0) : i = j := by
  have h1 := gd hi
  rw [e, ← gd hj] at h1
  exact (List.getElem?_inj hi hn).mp h1
theorem renIn_spec (block image : List Nat) (hn : block.Nodup) (hb : ∀ p ∈ block, p < image.length) : ∀ k, k ≤ block.length →
    (∀ p, (∀ i, i < k → block.getD i 0 ≠ p) → (renIn block image k).getD p 0 = image.getD p 0) ∧ ∀ i, i < k → (renIn block image k).getD (block.getD i 0) 0 = block.getD ((i + 1) % block.length) 0
  | 0, _ => ⟨fun _ _ => rfl, fun i hi => absurd hi (Nat.not_lt_zero _)⟩
  | k + 1, hk => by
    obtain ⟨a, b⟩ := renIn_spec block image hn hb k (by exact om13 hk)
    have hl := renIn_length block image k
    refine ⟨fun p hp => ?_, fun i hi => ?_⟩
    · rw [renIn, getD_set_ne _ _ _ (hp k (Nat.lt_succ_self k))]
      exact a p fun i hi => hp i (by exact om47 hi)
    · rw [renIn]
      by_cases e : i = k
      · subst e
        rw [getD_set_eq _ _ _ _ (by rw [hl]; exact hb _ (List.mem_of_getElem? (gd (by exact om4 hk))))]
      · rw [getD_set_ne _ _ _ fun q => e (gd_inj hn (by exact om4 hk) (by exact om46 hk hi) q).symm]
        exact b i (by exact om45 hi e)
structure RI (order : List Nat) (n : Nat) (r : RS) : Prop where
  len : r.image.length = n
  lt : ∀ p, p < n → r.image.getD p 0 < n
  inj : ∀ p q, p < n → q < n → r.image.getD p 0 = r.image.getD q 0 → p = q
  fix : ∀ i, r.at_ ≤ i → i < n → r.image.getD (order.getD i 0) 0 = order.getD i 0
  turn : unit r.turn
theorem RI.step {order : List Nat} {n : Nat} {r : RS} (hp : order.Perm (List.range n)) (h : RI order n r) (size : Nat) : RI order n (renStep order r size) := by
  have ol : order.length = n := by rw [hp.length_eq, List.length_range]
  have on : order.Nodup := hp.nodup_iff.mpr List.nodup_range
  have om : ∀ p ∈ order, p < n := fun p q => List.mem_range.mp (hp.mem_iff.mp q)
  have bg : ∀ i, i < (blockOf order r.at_ size).length → (blockOf order r.at_ size).getD i 0 = order.getD (r.at_ + i) 0 ∧ r.at_ + i < n ∧ i < size := by
    intro i hi
    unfold blockOf at hi ⊢
    rw [List.length_take, List.length_drop] at hi
    refine ⟨?_, by exact om44 ol hi, by exact om43 hi⟩
    rw [List.getD_eq_getElem?_getD, List.getD_eq_getElem?_getD, List.getElem?_take, if_pos (by exact om43 hi), List.getElem?_drop]
  have bn : (blockOf order r.at_ size).Nodup := ((List.take_sublist _ _).trans (List.drop_sublist _ _)).nodup on
  have bm : ∀ p ∈ blockOf order r.at_ size, p < r.image.length := fun p hp' => by rw [h.len]; exact om p (blockOf_mem hp')
  have bf : ∀ i, i < (blockOf order r.at_ size).length → r.image.getD ((blockOf order r.at_ size).getD i 0) 0 = (blockOf order r.at_ size).getD i 0 := fun i hi => by
    obtain ⟨e, h1, _⟩ := bg i hi
    rw [e]; exact h.fix _ (by exact om42) h1
  obtain ⟨sa, sb⟩ := renIn_spec _ r.image bn bm _ (Nat.le_refl _)
  have hl := renIn_length (blockOf order r.at_ size) r.image (blockOf order r.at_ size).length
  unfold renStep
  generalize hB : blockOf order r.at_ size = B at *
  have bn' : ∀ i, i < B.length → B.getD i 0 < n := fun i hi => by rw [← h.len]; exact bm _ (List.mem_of_getElem? (gd hi))
  have cas : ∀ p, (∃ i, i < B.length ∧ B.getD i 0 = p) ∨ ∀ i, i < B.length → B.getD i 0 ≠ p := fun p => by
    by_cases q : ∃ i, i < B.length ∧ B.getD i 0 = p
    · exact .inl q
    · exact .inr fun i hi e => q ⟨i, hi, e⟩
  have md : ∀ i, i < B.length → (i + 1) % B.length < B.length := fun i hi => Nat.mod_lt _ (by exact om41 hi)
  refine ⟨hl.trans h.len, fun p hpn => ?_, fun p q hpn hqn e => ?_, fun i hi hin => ?_, ?_⟩
  · show (renIn B r.image B.length).getD p 0 < n
    rcases cas p with ⟨i, hi, rfl⟩ | c
    · rw [sb i hi]; exact bn' _ (md i hi)
    · rw [sa p c]; exact h.lt p hpn
  · have e : (renIn B r.image B.length).getD p 0 = (renIn B r.image B.length).getD q 0 := e
    have mixed : ∀ i p, i < B.length → p < n → (∀ i, i < B.length → B.getD i 0 ≠ p) → B.getD ((i + 1) % B.length) 0 = r.image.getD p 0 → False := fun i p hi hp' c e => by
      have := bf _ (md i hi)
      rw [e] at this
      have h2 := h.inj _ p (h.lt p hp') hp' this
      exact c _ (md i hi) (e.trans h2)
    rcases cas p with ⟨i, hi, rfl⟩ | c
    · rcases cas q with ⟨j, hj, rfl⟩ | d
      · rw [sb i hi, sb j hj] at e
        have := gd_inj bn (md i hi) (md j hj) e
        have hij : i = j := by
          rcases Nat.lt_or_ge (i + 1) B.length with h1 | h1
          · rw [Nat.mod_eq_of_lt h1] at this
            rcases Nat.lt_or_ge (j + 1) B.length with h2 | h2
            · rw [Nat.mod_eq_of_lt h2] at this; exact om40 this
            · have : j + 1 = B.length := by exact om39 hj h2
              simp_all
          · have e1 : i + 1 = B.length := by exact om39 hi h1
            rw [e1, Nat.mod_self] at this
            rcases Nat.lt_or_ge (j + 1) B.length with h2 | h2
            · rw [Nat.mod_eq_of_lt h2] at this; exact (om38 this).elim
            · exact om37 hj e1 h2
        rw [hij]
      · rw [sb i hi, sa q d] at e
        exact (mixed i q hi hqn d e).elim
    · rcases cas q with ⟨j, hj, rfl⟩ | d
      · rw [sb j hj, sa p c] at e
        exact (mixed j p hj hpn c e.symm).elim
      · rw [sa p c, sa q d] at e
        exact h.inj p q hpn hqn e
  · show (renIn B r.image B.length).getD (order.getD i 0) 0 = order.getD i 0
    have hi : r.at_ + size ≤ i := hi
    rw [sa _ fun j hj e => ?_]
    · exact h.fix i (by exact om36 hi) hin
    · obtain ⟨e1, h1, h2⟩ := bg j hj
      rw [e1] at e
      have := gd_inj on (by exact om35 ol h1) (by exact om21 ol hin) e
      exact (om34 hi h2 this).elim
  · show unit (if B.length % 2 = 0 then -r.turn else r.turn)
    split
    · rcases h.turn with e | e
      · exact .inr (by rw [e])
      · exact .inl (by rw [e]; rfl)
    · exact h.turn
theorem ren_perm {order sizes : List Nat} {n : Nat} (hp : order.Perm (List.range n)) : (renL order sizes).image.Perm (List.range n) ∧ unit (renL order sizes).turn := by
  have ol : order.length = n := by rw [hp.length_eq, List.length_range]
  have om : ∀ p ∈ order, p < n := fun p q => List.mem_range.mp (hp.mem_iff.mp q)
  have rg : ∀ p, p < n → (List.range n).getD p 0 = p := fun p hpn => by
    rw [List.getD_eq_getElem?_getD, List.getElem?_range hpn]; rfl
  have h0 : RI order n ⟨List.range order.length, 1, 0⟩ := by
    rw [ol]
    refine ⟨List.length_range, fun p hpn => ?_, fun p q hpn hqn e => ?_, fun i _ hin => ?_, .inl rfl⟩
    · show (List.range n).getD p 0 < n
      rw [rg p hpn]; exact hpn
    · have e : (List.range n).getD p 0 = (List.range n).getD q 0 := e
      rwa [rg p hpn, rg q hqn] at e
    · show (List.range n).getD _ 0 = _
      exact rg _ (om _ (List.mem_of_getElem? (gd (by omega))))
  have all : ∀ (sizes : List Nat) (r : RS), RI order n r → RI order n (sizes.foldl (renStep order) r) := by
    intro sizes
    induction sizes with
    | nil => exact fun _ h => h
    | cons z l ih => exact fun r h => ih _ (h.step hp z)
  have h := all sizes _ h0
  refine ⟨?_, h.turn⟩
  have e : (renL order sizes).image = (List.range n).map fun p => (renL order sizes).image.getD p 0 := by
    apply List.ext_getElem?
    intro i
    rw [List.getElem?_map]
    rcases Nat.lt_or_ge i n with hi | hi
    · rw [List.getElem?_range hi, gd (by rw [show (renL order sizes).image.length = n from h.len]; exact hi)]; rfl
    · rw [List.getElem?_eq_none (by rw [show (renL order sizes).image.length = n from h.len]; exact hi), List.getElem?_eq_none (by rw [List.length_range]; exact hi)]; rfl
  rw [e]
  exact map_perm List.nodup_range (fun x hx => List.mem_range.mpr (h.lt x (List.mem_range.mp hx))) fun x hx y hy => h.inj x y (List.mem_range.mp hx) (List.mem_range.mp hy)
end Mine
end

open PySem PySem.W PyProof.Rows
set_option autoImplicit false
namespace Mine

section
abbrev KP := Addr → Obj → Prop
abbrev Pr := Obj → Prop
abbrev Mm := Str → Option Value
abbrev Gs := Array GenState

/-- what does not change during one activation -/
structure Cx where
  h0 : Heap
  K0 : KP
  mu : List Addr
  os : OsState

abbrev Own := List (Addr × Pr)

structure St (c : Cx) (g : Gs) (K : KP) (own : Own) (s : Shared) : Prop where
  le : ∀ b o, c.K0 b o → K b o
  new : ∀ b o, K b o → c.K0 b o ∨ c.h0.objs.size ≤ b
  kept : ∀ b o, K b o → s.heap.get? b = some o
  base : ∀ b o, c.h0.get? b = some o → b ∉ c.mu → s.heap.get? b = some o
  size : c.h0.objs.size ≤ s.heap.objs.size
  owned : ∀ p ∈ own, ∃ o, s.heap.get? p.1 = some o ∧ p.2 o
  ownNew : ∀ p ∈ own, p.1 ∈ c.mu ∨ c.h0.objs.size ≤ p.1
  sep : ∀ b o, K b o → ∀ p ∈ own, b ≠ p.1
  nd : (own.map (·.1)).Nodup
  gens : s.gens = g
  os : s.os = c.os

/-- K with one more object -/
def KP.add (K : KP) (a : Addr) (o : Obj) : KP := fun b o' => K b o' ∨ (b = a ∧ o' = o)
def KP.addP (K : KP) (P : KP) : KP := fun b o' => K b o' ∨ P b o'
def Le (K K' : KP) : Prop := ∀ b o, K b o → K' b o
theorem Le.refl (K : KP) : Le K K := fun _ _ h => h
theorem Le.trans {K K' K'' : KP} (h : Le K K') (h' : Le K' K'') : Le K K'' := fun b o x => h' b o (h b o x)
theorem le_add (K : KP) (a : Addr) (o : Obj) : Le K (K.add a o) := fun _ _ h => .inl h

theorem notnot {p : Prop} (h : ¬ p → False) : p := Classical.byContradiction h
section
variable {c : Cx} {g : Gs} {K : KP} {own : Own} {s : Shared}

theorem St.toks (S : St c g K own s) (t : Nat) : St c g K own { s with toks := t } := ⟨S.le, S.new, S.kept, S.base, S.size, S.owned, S.ownNew, S.sep, S.nd, S.gens, S.os⟩

theorem St.lt (S : St c g K own s) {p : Addr × Pr} (hp : p ∈ own) : p.1 < s.heap.objs.size := by
  obtain ⟨o, ho, _⟩ := S.owned p hp
  exact Heap.lt_size ho
theorem St.Klt (S : St c g K own s) {b : Addr} {o : Obj} (h : K b o) : b < s.heap.objs.size := Heap.lt_size (S.kept b o h)

/-- a heap in which only an owned address turned -/
theorem St.upd {a : Addr} {P P' : Pr} {own' : Own} (S : St c g K own s) {h' : Heap} (tk : Nat)
    (hm : (a, P) ∈ own) (hs : Heap.SameBut a s.heap h') (ho : ∃ o, h'.get? a = some o ∧ P' o)
    (hown : ∀ p ∈ own', p = (a, P') ∨ (p ∈ own ∧ p.1 ≠ a)) (hadr : own'.map (·.1) = own.map (·.1)) : St c g K own' { s with heap := h', toks := tk } := by
  have hin : ∀ p ∈ own', ∃ q ∈ own, q.1 = p.1 := by
    intro p hp
    have : p.1 ∈ own.map (·.1) := by rw [← hadr]; exact List.mem_map_of_mem hp
    obtain ⟨q, hq, e⟩ := List.mem_map.mp this
    exact ⟨q, hq, e⟩
  refine ⟨S.le, S.new, fun b o hb => ?_, fun b o hb hc => ?_, by rw [hs.1]; exact S.size, fun p hp => ?_, fun p hp => ?_, fun b o hb p hp => ?_, by rw [hadr]; exact S.nd, S.gens, S.os⟩
  · show h'.get? b = some o
    rw [hs.2 b (S.sep b o hb _ hm)]; exact S.kept b o hb
  · show h'.get? b = some o
    have hne : b ≠ a := by
      rintro rfl
      rcases S.ownNew _ hm with h | h
      · exact hc h
      · exact absurd (Heap.lt_size hb) (Nat.not_lt.mpr h)
    rw [hs.2 b hne]; exact S.base b o hb hc
  · rcases hown p hp with rfl | ⟨hp', hne⟩
    · exact ho
    · obtain ⟨o, e, x⟩ := S.owned p hp'
      exact ⟨o, (hs.2 _ hne).trans e, x⟩
  · obtain ⟨q, hq, e⟩ := hin p hp
    rw [← e]; exact S.ownNew q hq
  · obtain ⟨q, hq, e⟩ := hin p hp
    rw [← e]; exact S.sep b o hb q hq

/-- own' is own with a's word turned -/
inductive OwnUp : List (Addr × Pr) → Addr → Pr → Pr → List (Addr × Pr) → Prop
  | here {a : Addr} {P P' : Pr} {r : List (Addr × Pr)} : OwnUp ((a, P) :: r) a P P' ((a, P') :: r)
  | there {a : Addr} {P P' : Pr} {q : Addr × Pr} {r r' : List (Addr × Pr)} : OwnUp r a P P' r' → OwnUp (q :: r) a P P' (q :: r')
theorem OwnUp.mem {own own' : List (Addr × Pr)} {a : Addr} {P P' : Pr} (h : OwnUp own a P P' own') : (a, P) ∈ own := by
  induction h with
  | here => exact List.mem_cons_self
  | there _ ih => exact List.mem_cons_of_mem _ ih
theorem OwnUp.adr {own own' : List (Addr × Pr)} {a : Addr} {P P' : Pr} (h : OwnUp own a P P' own') : own'.map (·.1) = own.map (·.1) := by
  induction h with
  | here => rfl
  | there _ ih => simp only [List.map_cons, ih]
theorem OwnUp.parts {own own' : List (Addr × Pr)} {a : Addr} {P P' : Pr} (h : OwnUp own a P P' own') (nd : (own.map (·.1)).Nodup) : ∀ p ∈ own', p = (a, P') ∨ (p ∈ own ∧ p.1 ≠ a) := by
  induction h with
  | here =>
    intro p hp
    rcases List.mem_cons.mp hp with rfl | hp
    · exact .inl rfl
    · refine .inr ⟨List.mem_cons_of_mem _ hp, ?_⟩
      rintro e
      rw [List.map_cons, List.nodup_cons] at nd
      exact nd.1 (by rw [← e]; exact List.mem_map_of_mem (f := (·.1)) hp)
  | @there a P P' q r r' h ih =>
    intro p hp
    rw [List.map_cons, List.nodup_cons] at nd
    rcases List.mem_cons.mp hp with rfl | hp
    · refine .inr ⟨List.mem_cons_self, ?_⟩
      rintro e
      exact nd.1 (by rw [e]; exact List.mem_map_of_mem (f := (·.1)) h.mem)
    · rcases ih nd.2 p hp with h | h
      · exact .inl h
      · exact .inr ⟨List.mem_cons_of_mem _ h.1, h.2⟩
theorem St.turn {a : Addr} {P P' : Pr} {own' : Own} (S : St c g K own s) {h' : Heap} (tk : Nat) (hu : OwnUp own a P P' own')
    (hs : Heap.SameBut a s.heap h') (ho : ∃ o, h'.get? a = some o ∧ P' o) : St c g K own' { s with heap := h', toks := tk } :=
  S.upd tk hu.mem hs ho (hu.parts S.nd) hu.adr

/-- only new objects: every object of s stands -/
theorem St.grow (S : St c g K own s) {h' : Heap} (tk : Nat) (hk : ∀ b o, s.heap.get? b = some o → h'.get? b = some o) (hz : s.heap.objs.size ≤ h'.objs.size) : St c g K own { s with heap := h', toks := tk } :=
  ⟨S.le, S.new, fun b o x => hk _ _ (S.kept b o x), fun b o x y => hk _ _ (S.base b o x y), Nat.le_trans S.size hz,
   fun p hp => let ⟨o, e, x⟩ := S.owned p hp; ⟨o, hk _ _ e, x⟩, S.ownNew, S.sep, S.nd, S.gens, S.os⟩
theorem St.addK (S : St c g K own s) {a : Addr} {o : Obj} (ha : s.heap.get? a = some o) (hz : c.h0.objs.size ≤ a) (hn : ∀ p ∈ own, a ≠ p.1) : St c g (K.add a o) own s :=
  ⟨fun b o x => .inl (S.le b o x), fun b o' x => x.elim (S.new b o') fun e => .inr (e.1 ▸ hz), fun b o' x => x.elim (S.kept b o') fun e => by rw [e.1, e.2]; exact ha,
   S.base, S.size, S.owned, S.ownNew, fun b o' x p hp => x.elim (fun h => S.sep b o' h p hp) fun e => e.1 ▸ hn p hp, S.nd, S.gens, S.os⟩
theorem St.addOwn (S : St c g K own s) {a : Addr} {P : Pr} (ha : ∃ o, s.heap.get? a = some o ∧ P o) (hz : c.h0.objs.size ≤ a) (hn : ∀ p ∈ own, a ≠ p.1) (hK : ∀ b o, K b o → b ≠ a) : St c g K ((a, P) :: own) s :=
  ⟨S.le, S.new, S.kept, S.base, S.size, fun p hp => by
    rcases List.mem_cons.mp hp with rfl | hp
    · exact ha
    · exact S.owned p hp, fun p hp => by
    rcases List.mem_cons.mp hp with rfl | hp
    · exact .inr hz
    · exact S.ownNew p hp, fun b o x p hp => by
    rcases List.mem_cons.mp hp with rfl | hp
    · exact hK b o x
    · exact S.sep b o x p hp, by
    rw [List.map_cons, List.nodup_cons]
    refine ⟨fun h => ?_, S.nd⟩
    obtain ⟨q, hq, e⟩ := List.mem_map.mp h
    exact hn q hq e.symm, S.gens, S.os⟩
/-- the same owned, in another order or fewer -/
theorem St.sub {own' : Own} (S : St c g K own s) (h : ∀ p ∈ own', p ∈ own) (hn : (own'.map (·.1)).Nodup) : St c g K own' s :=
  ⟨S.le, S.new, S.kept, S.base, S.size, fun p hp => S.owned p (h p hp), fun p hp => S.ownNew p (h p hp), fun b o x p hp => S.sep b o x p (h p hp), hn, S.gens, S.os⟩
theorem St.drop1 {p q : Addr × Pr} {r : Own} (S : St c g K (p :: q :: r) s) : St c g K (p :: r) s :=
  S.sub (fun x hx => by rcases List.mem_cons.mp hx with rfl | hx; exact List.mem_cons_self; exact List.mem_cons_of_mem _ (List.mem_cons_of_mem _ hx))
    (by have := S.nd; simp only [List.map_cons, List.nodup_cons, List.mem_cons, not_or] at this ⊢; exact ⟨this.1.2, this.2.2⟩)
theorem St.drop0 {p : Addr × Pr} {r : Own} (S : St c g K (p :: r) s) : St c g K r s :=
  S.sub (fun x hx => List.mem_cons_of_mem _ hx) (by have := S.nd; rw [List.map_cons, List.nodup_cons] at this; exact this.2)
theorem St.swap {p q : Addr × Pr} {r : Own} (S : St c g K (p :: q :: r) s) : St c g K (q :: p :: r) s :=
  S.sub (fun x hx => by simp only [List.mem_cons] at hx ⊢; rcases hx with h | h | h <;> simp [h])
    (by have := S.nd; simp only [List.map_cons, List.nodup_cons, List.mem_cons, not_or] at this ⊢; exact ⟨⟨fun e => this.1.1 e.symm, this.2.1⟩, this.1.2, this.2.2⟩)
/-- forget more of an owned object -/
theorem St.weak {a : Addr} {P P' : Pr} {own' : Own} (S : St c g K own s) (hu : OwnUp own a P P' own') (h : ∀ o, P o → P' o) : St c g K own' s := by
  have hin : ∀ p ∈ own', ∃ q ∈ own, q.1 = p.1 := by
    intro p hp
    have : p.1 ∈ own.map (·.1) := by rw [← hu.adr]; exact List.mem_map_of_mem hp
    obtain ⟨q, hq, e⟩ := List.mem_map.mp this
    exact ⟨q, hq, e⟩
  refine ⟨S.le, S.new, S.kept, S.base, S.size, fun p hp => ?_, fun p hp => ?_, fun b o hb p hp => ?_, by rw [hu.adr]; exact S.nd, S.gens, S.os⟩
  · rcases hu.parts S.nd p hp with rfl | ⟨hp', _⟩
    · obtain ⟨o, e, x⟩ := S.owned _ hu.mem
      exact ⟨o, e, h o x⟩
    · exact S.owned p hp'
  · obtain ⟨q, hq, e⟩ := hin p hp
    rw [← e]; exact S.ownNew q hq
  · obtain ⟨q, hq, e⟩ := hin p hp
    rw [← e]; exact S.sep b o hb q hq
end
end

section
def NsO (m : Mm) : Pr := fun o => ∃ es ep, o.data = .dict es ep ∧ StrKeys es ∧ ∀ name, nsFind es name = m name
theorem ns_of {h : Heap} {a : Addr} {m : Mm} (x : ∃ o, h.get? a = some o ∧ NsO m o) : h.Ns a m := x.elim fun o h => h.2.elim fun es h' => h'.elim fun ep r => ⟨o, es, ep, h.1, r.1, r.2.1, r.2.2⟩
theorem of_ns {h : Heap} {a : Addr} {m : Mm} (x : h.Ns a m) : ∃ o, h.get? a = some o ∧ NsO m o := x.elim fun o h => h.elim fun es h => h.elim fun ep r => ⟨o, r.1, es, ep, r.2.1, r.2.2.1, r.2.2.2⟩

def vm : List Str → List (Option Value) → Mm
  | n :: ns, v :: vs, x => if x = n then v else vm ns vs x
  | _, _, _ => none
inductive Ix : List Str → List (Option Value) → Str → Value → Prop
  | here {x : Str} {v : Value} {ns : List Str} {vs : List (Option Value)} : Ix (x :: ns) (some v :: vs) x v
  | there {x n : Str} {v : Value} {u : Option Value} {ns : List Str} {vs : List (Option Value)} : Ix ns vs x v → Ix (n :: ns) (u :: vs) x v
inductive Up : List Str → List (Option Value) → Str → Value → List (Option Value) → Prop
  | here {x : Str} {v : Value} {u : Option Value} {ns : List Str} {vs : List (Option Value)} : Up (x :: ns) (u :: vs) x v (some v :: vs)
  | there {x n : Str} {v : Value} {u : Option Value} {ns : List Str} {vs vs' : List (Option Value)} : Up ns vs x v vs' → Up (n :: ns) (u :: vs) x v (u :: vs')
theorem Ix.mem {names : List Str} {vals : List (Option Value)} {x : Str} {v : Value} (h : Ix names vals x v) : x ∈ names := by
  induction h with
  | here => exact List.mem_cons_self
  | there _ ih => exact List.mem_cons_of_mem _ ih
theorem Up.mem {names : List Str} {vals vals' : List (Option Value)} {x : Str} {v : Value} (h : Up names vals x v vals') : x ∈ names := by
  induction h with
  | here => exact List.mem_cons_self
  | there _ ih => exact List.mem_cons_of_mem _ ih
theorem Ix.get {names : List Str} {vals : List (Option Value)} {x : Str} {v : Value} (h : Ix names vals x v) (nd : names.Nodup) : vm names vals x = some v := by
  induction h with
  | here => simp [vm]
  | there h ih =>
    rw [List.nodup_cons] at nd
    rw [vm, if_neg (by rintro rfl; exact nd.1 h.mem)]
    exact ih nd.2
theorem Up.eq {names : List Str} {vals vals' : List (Option Value)} {x : Str} {v : Value} (h : Up names vals x v vals') (nd : names.Nodup) : (fun y => if y = x then some v else vm names vals y) = vm names vals' := by
  induction h with
  | @here x v u ns vs =>
    funext y
    by_cases e : y = x <;> simp [vm, e]
  | @there x n v u ns vs vs' h ih =>
    rw [List.nodup_cons] at nd
    have ih := congrFun (ih nd.2)
    funext y
    have := ih y
    by_cases e : y = n
    · subst e
      have hne : y ≠ x := by rintro rfl; exact nd.1 h.mem
      simp [vm, hne]
    · simp only [vm, if_neg e]; exact this

abbrev FrO (names : List Str) (vals : List (Option Value)) : Pr := NsO (vm names vals)
def LsO (items : List Value) : Pr := fun o => o.cls = .type "list" ∧ ∃ n, o.data = .seq items.toArray n
theorem ls_of {h : Heap} {a : Addr} {items : List Value} (x : ∃ o, h.get? a = some o ∧ LsO items o) : h.IsList a items.toArray := x
theorem of_ls {h : Heap} {a : Addr} {items : List Value} (x : h.IsList a items.toArray) : ∃ o, h.get? a = some o ∧ LsO items o := x
def CellO (v : Option Value) : Pr := fun o => o.data = .cell v

mutual
inductive Rd (K : KP) : Value → PyData → Prop
  | none : Rd K .none .none
  | bool (b) : Rd K (.bool b) (.bool b)
  | int (i t) : Rd K (.int i t) (.int i)
  | str (x t) : Rd K (.str x t) (.str x)
  | list {a o vs n xs} : K a o → o.cls = .type "list" → o.data = .seq vs n → RdAll K vs.toList xs → Rd K (.ref a) (.list xs)
  | tuple {a o vs n xs} : K a o → o.cls = .type "tuple" → o.data = .seq vs n → RdAll K vs.toList xs → Rd K (.ref a) (.tuple xs)
inductive RdAll (K : KP) : List Value → List PyData → Prop
  | nil : RdAll K [] []
  | cons {v vs d ds} : Rd K v d → RdAll K vs ds → RdAll K (v :: vs) (d :: ds)
end
theorem Rd.mono {K K' : KP} (h : Le K K') {v : Value} {d : PyData} (r : Rd K v d) : Rd K' v d :=
  Rd.rec (motive_1 := fun v d _ => Rd K' v d) (motive_2 := fun vs ds _ => RdAll K' vs ds) .none .bool .int .str (fun a b c _ ih => .list (h _ _ a) b c ih) (fun a b c _ ih => .tuple (h _ _ a) b c ih) .nil (fun _ _ a b => .cons a b) r
theorem RdAll.ind {K : KP} {M : List Value → List PyData → Prop} (nil : M [] []) (cons : ∀ {v vs d ds}, Rd K v d → RdAll K vs ds → M vs ds → M (v :: vs) (d :: ds)) {vs : List Value} {ds : List PyData} (r : RdAll K vs ds) : M vs ds :=
  RdAll.rec (motive_1 := fun _ _ _ => True) (motive_2 := fun vs ds _ => M vs ds) trivial (fun _ => trivial) (fun _ _ => trivial) (fun _ _ => trivial) (fun _ _ _ _ _ => trivial) (fun _ _ _ _ _ => trivial) nil (fun a b _ ih => cons a b ih) r
theorem RdAll.mono {K K' : KP} (h : Le K K') {vs : List Value} {ds : List PyData} (r : RdAll K vs ds) : RdAll K' vs ds := r.ind (M := RdAll K') .nil fun a _ ih => .cons (a.mono h) ih
theorem Rd.reads {K : KP} {hp : Heap} (h : ∀ b o, K b o → hp.get? b = some o) {v : Value} {d : PyData} (r : Rd K v d) : ∃ as, Reads hp v d as :=
  Rd.rec (motive_1 := fun v d _ => ∃ as, Reads hp v d as) (motive_2 := fun vs ds _ => ∃ as, ReadsAll hp vs ds as) ⟨_, .none⟩ (fun b => ⟨_, .bool b⟩) (fun i t => ⟨_, .int i t⟩) (fun x t => ⟨_, .str x t⟩)
    (fun a b c _ ih => ih.elim fun _ r => ⟨_, .list (h _ _ a) b c r⟩) (fun a b c _ ih => ih.elim fun _ r => ⟨_, .tuple (h _ _ a) b c r⟩) ⟨_, .nil⟩ (fun _ _ a b => a.elim fun _ r => b.elim fun _ r' => ⟨_, .cons r r'⟩) r
theorem RdAll.reads {K : KP} {hp : Heap} (h : ∀ b o, K b o → hp.get? b = some o) {vs : List Value} {ds : List PyData} (r : RdAll K vs ds) : ∃ as, ReadsAll hp vs ds as :=
  r.ind (M := fun vs ds => ∃ as, ReadsAll hp vs ds as) ⟨_, .nil⟩ fun a _ ih => (a.reads h).elim fun _ r => ih.elim fun _ r' => ⟨_, .cons r r'⟩
theorem RdAll.length {K : KP} {vs : List Value} {ds : List PyData} (r : RdAll K vs ds) : vs.length = ds.length := r.ind (M := fun vs ds => vs.length = ds.length) rfl fun _ _ ih => congrArg Nat.succ ih
theorem RdAll.get {K : KP} {vs : List Value} {ds : List PyData} (r : RdAll K vs ds) {i : Nat} {d : PyData} (h : ds[i]? = some d) : ∃ v, vs[i]? = some v ∧ Rd K v d := by
  refine r.ind (M := fun vs ds => ∀ i d, ds[i]? = some d → ∃ v, vs[i]? = some v ∧ Rd K v d) (fun i d h => nomatch (show (none : Option PyData) = some d from h)) (fun a _ ih i d h => ?_) i d h
  cases i with
  | zero => exact ⟨_, rfl, Option.some.inj h ▸ a⟩
  | succ i => exact ih i d h
theorem RdAll.snoc {K : KP} {vs : List Value} {ds : List PyData} {v : Value} {d : PyData} (r : RdAll K vs ds) (h : Rd K v d) : RdAll K (vs ++ [v]) (ds ++ [d]) := r.ind (M := fun vs ds => RdAll K (vs ++ [v]) (ds ++ [d])) (.cons h .nil) fun a _ ih => .cons a ih
theorem RdAll.append {K : KP} {vs vs' : List Value} {ds ds' : List PyData} (r : RdAll K vs ds) (h : RdAll K vs' ds') : RdAll K (vs ++ vs') (ds ++ ds') := r.ind (M := fun vs ds => RdAll K (vs ++ vs') (ds ++ ds')) h fun a _ ih => .cons a ih
theorem RdAll.set {K : KP} {vs : List Value} {ds : List PyData} {v : Value} {d : PyData} (i : Nat) (r : RdAll K vs ds) (h : Rd K v d) : RdAll K (vs.set i v) (ds.set i d) := by
  refine r.ind (M := fun vs ds => ∀ i, RdAll K (vs.set i v) (ds.set i d)) (fun _ => .nil) (fun a b ih i => ?_) i
  cases i with
  | zero => exact .cons h b
  | succ i => exact .cons a (ih i)
theorem RdAll.take {K : KP} {vs : List Value} {ds : List PyData} (i : Nat) (r : RdAll K vs ds) : RdAll K (vs.take i) (ds.take i) := by
  refine r.ind (M := fun vs ds => ∀ i, RdAll K (vs.take i) (ds.take i)) (fun i => by cases i <;> exact .nil) (fun a b ih i => ?_) i
  cases i with
  | zero => exact .nil
  | succ i => exact .cons a (ih i)
theorem RdAll.drop {K : KP} {vs : List Value} {ds : List PyData} (i : Nat) (r : RdAll K vs ds) : RdAll K (vs.drop i) (ds.drop i) := by
  refine r.ind (M := fun vs ds => ∀ i, RdAll K (vs.drop i) (ds.drop i)) (fun i => by cases i <;> exact .nil) (fun a b ih i => ?_) i
  cases i with
  | zero => exact .cons a b
  | succ i => exact ih i
theorem Rd.isList {K : KP} {v : Value} {ds : List PyData} (h : Rd K v (.list ds)) : ∃ a o vs, v = .ref a ∧ K a o ∧ LsO vs o ∧ RdAll K vs ds := by
  cases h with
  | @list a o vs n _ k c d r => exact ⟨a, o, vs.toList, rfl, k, ⟨c, n, by rw [d]⟩, r⟩
theorem Rd.intE {K : KP} {v : Value} {i : Int} (h : Rd K v (.int i)) : ∃ t, v = .int i t := by cases h; exact ⟨_, rfl⟩
theorem Rd.strE {K : KP} {v : Value} {i : Str} (h : Rd K v (.str i)) : ∃ t, v = .str i t := by cases h; exact ⟨_, rfl⟩
theorem Rd.boolE {K : KP} {v : Value} {i : Bool} (h : Rd K v (.bool i)) : v = .bool i := by cases h; rfl
end

section
/-- a plain list object (no dict of its own) -/
def LpO (items : List Value) : Pr := fun o => ∃ n, o = listOf items.toArray n
theorem lp_is {h : Heap} {a : Addr} {items : List Value} (x : ∃ o, h.get? a = some o ∧ LpO items o) : h.IsList a items.toArray := by
  obtain ⟨o, e, n, rfl⟩ := x
  exact ⟨_, e, rfl, n, rfl⟩
theorem lp_plain {h : Heap} {a : Addr} {items : List Value} (x : ∃ o, h.get? a = some o ∧ LpO items o) : h.PlainList a items.toArray := by
  obtain ⟨o, e, n, rfl⟩ := x
  exact ⟨n, e⟩
theorem plain_lp {h : Heap} {a : Addr} {items : List Value} (x : h.PlainList a items.toArray) : ∃ o, h.get? a = some o ∧ LpO items o := by
  obtain ⟨n, e⟩ := x
  exact ⟨_, e, n, rfl⟩
theorem LpO.rd {K : KP} {a : Addr} {o : Obj} {vs : List Value} {ds : List PyData} (h : LpO vs o) (k : K a o) (r : RdAll K vs ds) : Rd K (.ref a) (.list ds) := by
  obtain ⟨n, rfl⟩ := h
  exact .list k rfl rfl (by simpa using r)

structure GB (K : KP) (GL BL : List (Str × Value)) : Prop where
  all : ∃ og ob ol mg mb ml, K mainGlobals og ∧ NsO mg og ∧ K builtinsNs ob ∧ NsO mb ob ∧ K cStatics ol ∧ NsO ml ol ∧ ml (Str.ofString "sys.recursionlimit") = none ∧
    (∀ p ∈ GL, mg p.1 = some p.2) ∧ ∀ p ∈ BL, mg p.1 = none ∧ mb p.1 = some p.2
theorem GB.mono {K K' : KP} {GL BL : List (Str × Value)} (h : GB K GL BL) (l : Le K K') : GB K' GL BL := by
  obtain ⟨og, ob, ol, mg, mb, ml, a, b, c, d, e, f, r⟩ := h
  exact ⟨og, ob, ol, mg, mb, ml, l _ _ a, b, l _ _ c, d, l _ _ e, f, r⟩

structure EnvF (env : Env) (L : Addr) (names gn : List Str) : Prop where
  kind : env.scope.kind = .function
  loc : env.locals = L
  glob : env.globals = mainGlobals
  blt : env.builtins = builtinsNs
  nd : names.Nodup
  all : ∀ x ∈ names, env.kindOf x = some .local ∧ (x == ("__debug__" : Str)) = false
  gall : ∀ x ∈ gn, env.kindOf x = some .globalImplicit ∧ (x == ("__debug__" : Str)) = false

section
variable {prog : Program} {w : World} {A : Around} {E : Value → Shared → Prop} {c : Cx} {g : Gs} {K : KP} {own rest : Own} {s : Shared} {env : Env} {L : Addr} {names gn : List Str} {vals : List (Option Value)} {GL BL : List (Str × Value)}

theorem St.ns {mv : Mm} (S : St c g K ((L, NsO mv) :: rest) s) : s.heap.Ns L mv := ns_of (S.owned _ List.mem_cons_self)

theorem ld_loc {x : Str} {v : Value} {Q : Value → Shared → Prop} (S : St c g K ((L, FrO names vals) :: rest) s) (he : EnvF env L names gn) (hx : Ix names vals x v) (h : Q v s) :
    wpAny (model prog w) A (loadName env x) Q E s := by
  obtain ⟨hl, _⟩ := he.all x hx.mem
  have := S.ns
  rw [← he.loc] at this
  exact wpAny_loadName_local he.kind hl this (hx.get he.nd) h
theorem ev_loc {x : Str} {pos : Pos} {v : Value} {Q : Value → Shared → Prop} (S : St c g K ((L, FrO names vals) :: rest) s) (he : EnvF env L names gn) (hx : Ix names vals x v) (h : Q v s) :
    wpAny (model prog w) A (eval (.Name x pos) env) Q E s := wpAny_Name (ld_loc S he hx h) (he.all x hx.mem).2
theorem st_loc {x : Str} {v : Value} {vals' : List (Option Value)} {Q : Unit → Shared → Prop} (S : St c g K ((L, FrO names vals) :: rest) s) (he : EnvF env L names gn) (hu : Up names vals x v vals')
    (h : ∀ s', St c g K ((L, FrO names vals') :: rest) s' → Q () s') : wpAny (model prog w) A (storeName env x v) Q E s := by
  obtain ⟨hl, _⟩ := he.all x hu.mem
  have hn := S.ns
  rw [← he.loc] at hn
  refine wpAny_storeName_local hl hn (fun h' hn' hs => ?_) (by rw [he.kind]; rfl)
  rw [he.loc, hu.eq he.nd] at hn'
  rw [he.loc] at hs
  exact h _ (S.turn _ .here hs (of_ns hn'))
/-- the frame's own map, kept apart -/
theorem St.gen {P : Prop} (S : St c g K ((L, FrO names vals) :: rest) s) (h : ∀ m, vm names vals = m → St c g K ((L, NsO m) :: rest) s → P) : P := h _ rfl S
theorem St.unV {mv : Mm} (hV : vm names vals = mv) (S : St c g K ((L, NsO mv) :: rest) s) : St c g K ((L, FrO names vals) :: rest) s := by subst hV; exact S
theorem ev_locM {mv : Mm} {x : Str} {pos : Pos} {v : Value} {Q : Value → Shared → Prop} (S : St c g K ((L, NsO mv) :: rest) s) (he : EnvF env L names gn) (hV : vm names vals = mv) (hx : Ix names vals x v) (h : Q v s) :
    wpAny (model prog w) A (eval (.Name x pos) env) Q E s := ev_loc (S.unV hV) he hx h
theorem st_locM {mv : Mm} {x : Str} {v : Value} {vals' : List (Option Value)} {Q : Unit → Shared → Prop} (S : St c g K ((L, NsO mv) :: rest) s) (he : EnvF env L names gn) (hV : vm names vals = mv) (hu : Up names vals x v vals')
    (h : ∀ m s', vm names vals' = m → St c g K ((L, NsO m) :: rest) s' → Q () s') : wpAny (model prog w) A (storeName env x v) Q E s := st_loc (S.unV hV) he hu fun s' S' => h _ s' rfl S'
theorem xs_cons {st : Stmt} {rest : List Stmt} {Q : Flow → Shared → Prop}
    (h : ∀ N : Flow → Shared → Prop, (∀ f s', (match f with | .next => wpAny (model prog w) A (execs rest env) Q E s' | f => Q f s') → N f s') → wpAny (model prog w) A (exec st env) N E s) :
    wpAny (model prog w) A (execs (st :: rest) env) Q E s := wpAny_execs_cons (h _ fun _ _ q => q)
theorem xs_one {st : Stmt} {Q : Flow → Shared → Prop} (h : wpAny (model prog w) A (exec st env) Q E s) : wpAny (model prog w) A (execs [st] env) Q E s := by
  refine wpAny_execs_cons (wpAny_mono h (fun f s' q => ?_) fun _ _ e => e)
  cases f <;> first | exact wpAny_execs_nil q | exact q
theorem x_set {x : Str} {pos' pos : Pos} {value : Expr} {Q : Flow → Shared → Prop}
    (h : wpAny (model prog w) A (eval value env) (fun v s₁ => wpAny (model prog w) A (storeName env x v) (fun _ => Q .next) E s₁) E s)
    (hs : swapsWith value (some (.Name x pos')) pos.line env = pure false := by with_unfolding_all rfl) :
    wpAny (model prog w) A (exec (.Assign [.Name x pos'] value pos) env) Q E s := wpAny_Assign_Name h hs

theorem x_expr {e : Expr} {pos : Pos} {Q : Flow → Shared → Prop} (he : EnvF env L names gn) (h : wpAny (model prog w) A (eval e env) (fun _ => Q .next) E s)
    (hs : swapsWith e none pos.line env = pure false := by with_unfolding_all rfl) : wpAny (model prog w) A (exec (.Expr e pos) env) Q E s :=
  wpAny_Expr_any h (by unfold interactive; rw [he.kind]; rfl) hs

theorem ev_glob {x : Str} {pos : Pos} {v : Value} {Q : Value → Shared → Prop} (S : St c g K own s) (he : EnvF env L names gn) (hG : GB K GL BL) (hx : x ∈ gn) (hv : (x, v) ∈ GL) (h : Q v s) :
    wpAny (model prog w) A (eval (.Name x pos) env) Q E s := by
  obtain ⟨og, ob, ol, mg, mb, ml, a, b, cc, d, e, f, r0, r1, r2⟩ := hG
  refine Calls.Name_function_global he.kind (he.gall x hx).1 (Calls.loadGlobal_global (mg := mg) ?_ (r1 _ hv) h) (he.gall x hx).2
  rw [he.glob]
  exact ns_of ⟨_, S.kept _ _ a, b⟩
theorem ev_blt {x : Str} {pos : Pos} {v : Value} {Q : Value → Shared → Prop} (S : St c g K own s) (he : EnvF env L names gn) (hG : GB K GL BL) (hx : x ∈ gn) (hv : (x, v) ∈ BL) (h : Q v s) :
    wpAny (model prog w) A (eval (.Name x pos) env) Q E s := by
  obtain ⟨og, ob, ol, mg, mb, ml, a, b, cc, d, e, f, r0, r1, r2⟩ := hG
  refine Calls.Name_function_global he.kind (he.gall x hx).1 (Calls.loadGlobal_builtin (mg := mg) (mb := mb) ?_ (r2 _ hv).1 ?_ (r2 _ hv).2 h) (he.gall x hx).2
  · rw [he.glob]; exact ns_of ⟨_, S.kept _ _ a, b⟩
  · rw [he.blt]; exact ns_of ⟨_, S.kept _ _ cc, d⟩

theorem ev_int {i : Int} {k : Nat} {pos : Pos} {Q : Value → Shared → Prop} (S : St c g K own s) (h : ∀ t s', St c g K own s' → Q (.int i t) s') :
    wpAny (model prog w) A (eval (.Constant (.int i) k pos) env) Q E s := wpAny_Constant_int (h _ _ (S.toks _))
theorem ev_str {x : Str} {k : Nat} {pos : Pos} {Q : Value → Shared → Prop} (S : St c g K own s) (h : ∀ t s', St c g K own s' → Q (.str x t) s') :
    wpAny (model prog w) A (eval (.Constant (.str x) k pos) env) Q E s := Calls.Constant_str (h _ _ (S.toks _))
theorem ev_bool {b : Bool} {k : Nat} {pos : Pos} {Q : Value → Shared → Prop} (h : Q (.bool b) s) :
    wpAny (model prog w) A (eval (.Constant (.bool b) k pos) env) Q E s := wpAny_Constant_bool h
theorem b_add {a b : Int} {t u : Tok} {Q : Value → Shared → Prop} (S : St c g K own s) (h : ∀ t s', St c g K own s' → Q (.int (a + b) t) s') :
    wpAny (model prog w) A (binaryOp .Add (.int a t) (.int b u)) Q E s := add_int (h _ _ (S.toks _))
theorem b_sub {a b : Int} {t u : Tok} {Q : Value → Shared → Prop} (S : St c g K own s) (h : ∀ t s', St c g K own s' → Q (.int (a - b) t) s') :
    wpAny (model prog w) A (binaryOp .Sub (.int a t) (.int b u)) Q E s := sub_int' (h _ _ (S.toks _))
theorem b_mul {a b : Int} {t u : Tok} {Q : Value → Shared → Prop} (S : St c g K own s) (hm : IntMulOk a b) (h : ∀ t s', St c g K own s' → Q (.int (a * b) t) s') :
    wpAny (model prog w) A (binaryOp .Mult (.int a t) (.int b u)) Q E s := mul_int (h _ _ (S.toks _)) hm
theorem b_mod {a b : Int} {t u : Tok} {Q : Value → Shared → Prop} (S : St c g K own s) (hb : b ≠ 0) (h : ∀ t s', St c g K own s' → Q (.int (Int.fmod a b) t) s') :
    wpAny (model prog w) A (binaryOp .Mod (.int a t) (.int b u)) Q E s := mod_int hb (h _ _ (S.toks _))
theorem b_div {a b : Int} {t u : Tok} {Q : Value → Shared → Prop} (S : St c g K own s) (hb : b ≠ 0) (hp : Builtin.divisionGoesByPylong a b = false) (h : ∀ t s', St c g K own s' → Q (.int (Int.fdiv a b) t) s') :
    wpAny (model prog w) A (binaryOp .FloorDiv (.int a t) (.int b u)) Q E s := floordiv_int hb (h _ _ (S.toks _)) (.inl hp)

/-- a new object, owned, behind the head -/
theorem St.alloc {p : Addr × Pr} (S : St c g K (p :: rest) s) (o : Obj) {P : Pr} (hP : P o) (hf : o.isFreed = false) (tk : Nat) : St c g K (p :: (s.heap.objs.size, P) :: rest) { s with heap := s.heap.push o, toks := tk } := by
  have S' := S.grow (h' := s.heap.push o) tk (fun b o' e => Heap.get?_push_of_some _ e) (by rw [Heap.size_push]; exact Nat.le_succ _)
  refine (S'.addOwn (a := s.heap.objs.size) (P := P) ⟨o, Heap.get?_push_size _ hf, hP⟩ S.size (fun q hq => ?_) (fun b o' hk => ?_)).swap
  · exact Nat.ne_of_gt (S.lt hq)
  · exact Nat.ne_of_lt (S.Klt hk)
theorem St.allocK (S : St c g K own s) (o : Obj) (hf : o.isFreed = false) (tk : Nat) : St c g (K.add s.heap.objs.size o) own { s with heap := s.heap.push o, toks := tk } := by
  have S' := S.grow (h' := s.heap.push o) tk (fun b o' e => Heap.get?_push_of_some _ e) (by rw [Heap.size_push]; exact Nat.le_succ _)
  exact S'.addK (Heap.get?_push_size _ hf) S.size fun q hq => Nat.ne_of_gt (S.lt hq)
/-- what is owned behind the head is frozen -/
theorem St.freeze1 {p : Addr × Pr} {a : Addr} {P : Pr} (S : St c g K (p :: (a, P) :: rest) s) (hm : a ∉ c.mu := by first | exact List.not_mem_nil | assumption) : ∃ o, P o ∧ St c g (K.add a o) (p :: rest) s := by
  obtain ⟨o, e, hP⟩ := S.owned (a, P) (by simp)
  have nd := S.nd
  simp only [List.map_cons, List.nodup_cons, List.mem_cons, not_or] at nd
  refine ⟨o, hP, S.drop1.addK e ?_ fun q hq => ?_⟩
  · rcases S.ownNew (a, P) (by simp) with h | h
    · exact absurd h hm
    · exact h
  · rcases List.mem_cons.mp hq with rfl | hq
    · exact fun h => nd.1.1 h.symm
    · rintro rfl
      exact nd.2.1 (List.mem_map_of_mem (f := (·.1)) hq)

theorem nw_list {p : Addr × Pr} {vs : List Value} {Q : Value → Shared → Prop} (S : St c g K (p :: rest) s) (h : ∀ a s', St c g K (p :: (a, LpO vs) :: rest) s' → Q (.ref a) s') (hsz : vs.length ≤ sizeLine := by size_fits) :
    wpAny (model prog w) A (newList vs) Q E s := wpAny_newList (h _ _ (S.alloc (listOf vs.toArray 0) ⟨0, rfl⟩ rfl _)) hsz
theorem nw_tuple {vs : List Value} {ds : List PyData} {Q : Value → Shared → Prop} (S : St c g K own s) (hr : RdAll K vs ds)
    (h : ∀ a s' K', Le K K' → St c g K' own s' → Rd K' (.ref a) (.tuple ds) → Q (.ref a) s') (hsz : vs.length ≤ sizeLine := by size_fits) :
    wpAny (model prog w) A (newTuple vs) Q E s :=
  wpAny_newTuple (h _ _ _ (le_add _ _ _) (S.allocK { cls := .type "tuple", data := .seq vs.toArray } rfl _) (.tuple (.inr ⟨rfl, rfl⟩) rfl rfl (by simpa using hr.mono (le_add _ _ _)))) hsz
end
end

section
structure AOk (A : Around) (n : Nat) : Prop where
  handled : A.handled = none
  depth : A.depth + n < 1000
  units : A.units + 8 * n + 100 < 9900
theorem AOk.deeper {A : Around} {n : Nat} (h : AOk A (n + 1)) (env : Env) : AOk (A.deeper env) n := by
  refine ⟨h.handled, ?_, ?_⟩
  · have := h.depth; show A.depth + 1 + n < 1000; exact om55 this
  · have := h.units; show A.units + 3 + 8 * n + 100 < 9900; exact om54 this
theorem AOk.in1 {A : Around} {n : Nat} (h : AOk A (n + 1)) : AOk A.in1 n := by
  refine ⟨h.handled, ?_, ?_⟩
  · have := h.depth; show A.depth + n < 1000; exact om53 this
  · have := h.units; show A.units + 1 + 8 * n + 100 < 9900; exact om52 this
theorem AOk.le {A : Around} {n m : Nat} (h : AOk A n) (hm : m ≤ n) : AOk A m := ⟨h.handled, by have := h.depth; exact om51 hm this, by have := h.units; exact om50 hm this⟩
theorem AOk.room {A : Around} {n : Nat} (h : AOk A n) : A.depth < recursionLimit := by have := h.depth; show A.depth < 1000; exact om49 this
theorem AOk.uroom {A : Around} {n : Nat} (h : AOk A n) : A.units < cLine := by have := h.units; show A.units < 9900; exact om48 this

structure Fd where
  name : Str
  qual : Str
  P : Arguments
  B : List Stmt
  S : Scope
/-- the def stands at a, without defaults -/
def Fun (K : KP) (a : Addr) (f : Fd) : Prop :=
  ∃ doc pm an cd ct d sl co vs t, K a ⟨.type "function", d, .func (fnOf f.name f.qual f.P f.B f.S .none .none doc pm an (.ref cd) ct), sl⟩ ∧ K cd co ∧ co.data = .fields vs ∧ vs[1]? = some (.str f.qual t)
theorem Fun.mono {K K' : KP} {a : Addr} {f : Fd} (h : Fun K a f) (l : Le K K') : Fun K' a f := by
  obtain ⟨doc, pm, an, cd, ct, d, sl, co, vs, t, h1, h2, h3⟩ := h
  exact ⟨doc, pm, an, cd, ct, d, sl, co, vs, t, l _ _ h1, l _ _ h2, h3⟩
structure ScopeOk (S : Scope) (names gn : List Str) : Prop where
  kind : S.kind = .function
  nd : names.Nodup
  all : ∀ x ∈ names, S.names.lookup x = some .local ∧ (x == ("__debug__" : Str)) = false
  gall : ∀ x ∈ gn, S.names.lookup x = some .globalImplicit ∧ (x == ("__debug__" : Str)) = false
  cells : ∀ x ∈ S.names, x.2 ≠ .cell
  plain : S.isCoroutine = false ∧ S.isGenerator = false

/-- what a call may leave behind: old objects stand (but those of mu), the new frozen ones are fresh -/
structure Ret (K : KP) (s : Shared) (mu : List Addr) (g : Gs) (K' : KP) (s' : Shared) : Prop where
  le : Le K K'
  new : ∀ b o, K' b o → K b o ∨ s.heap.objs.size ≤ b
  kept : ∀ b o, K' b o → s'.heap.get? b = some o
  base : ∀ b o, s.heap.get? b = some o → b ∉ mu → s'.heap.get? b = some o
  size : s.heap.objs.size ≤ s'.heap.objs.size
  gens : s'.gens = g
  os : s'.os = s.os

section
variable {prog : Program} {w : World} {A : Around} {E : Value → Shared → Prop} {c : Cx} {g : Gs} {K : KP} {own rest : Own} {s : Shared} {env : Env} {L : Addr} {names gn : List Str} {vals : List (Option Value)} {GL BL : List (Str × Value)}

theorem St.ret {K' : KP} {h0 : Shared} {mu : List Addr} (S : St ⟨h0.heap, K, mu, h0.os⟩ g K' own s) : Ret K h0 mu g K' s :=
  ⟨S.le, S.new, S.kept, S.base, S.size, S.gens, S.os⟩
/-- back in the caller -/
theorem St.back {K' : KP} {g' : Gs} {s' : Shared} (S : St c g K own s) (r : Ret K s [] g' K' s') : St c g' K' own s' :=
  ⟨fun b o h => r.le b o (S.le b o h), fun b o h => (r.new b o h).elim (S.new b o) fun h => .inr (Nat.le_trans S.size h), r.kept,
   fun b o h hm => r.base _ _ (S.base b o h hm) List.not_mem_nil, Nat.le_trans S.size r.size,
   fun p hp => let ⟨o, e, x⟩ := S.owned p hp; ⟨o, r.base _ _ e List.not_mem_nil, x⟩, S.ownNew,
   fun b o h p hp => (r.new b o h).elim (fun h => S.sep b o h p hp) fun h => Nat.ne_of_gt (Nat.lt_of_lt_of_le (S.lt hp) h), S.nd, r.gens, r.os.trans S.os⟩

theorem St.start (s : Shared) (K : KP) (mu : List Addr) (hK : ∀ b o, K b o → s.heap.get? b = some o) : St ⟨s.heap, K, mu, s.os⟩ s.gens K [] s :=
  ⟨fun _ _ h => h, fun _ _ h => .inl h, hK, fun _ _ h _ => h, Nat.le_refl _, fun _ hp => (nomatch hp), fun _ hp => (nomatch hp), fun _ _ _ _ hp => (nomatch hp), List.nodup_nil, rfl, rfl⟩

theorem vm_none : ∀ (ls : List Str) (x : Str), vm ls (ls.map fun _ => none) x = none
  | [], _ => rfl
  | n :: ls, x => by
    by_cases e : x = n
    · simp [vm, e]
    · rw [List.map_cons, vm, if_neg e]; exact vm_none ls x
theorem lookup_none : ∀ {ps : List Str} {vs : List Value} {x : Str}, x ∉ ps → (ps.zip vs).reverse.lookup x = none
  | [], vs, x, _ => by simp
  | p :: ps, [], x, _ => by simp
  | p :: ps, v :: vs, x, h => by
    rw [List.zip_cons_cons, List.reverse_cons, List.lookup_append, lookup_none (fun hm => h (List.mem_cons_of_mem _ hm))]
    have : (x == p) = false := beq_eq_false_iff_ne.mpr fun e => h (e ▸ List.mem_cons_self)
    simp [List.lookup_cons, this]
theorem lookup_vm (ls : List Str) {ps : List Str} {vs : List Value} (nd : ps.Nodup) (hl : ps.length = vs.length) (x : Str) : (ps.zip vs).reverse.lookup x = vm (ps ++ ls) (vs.map some ++ ls.map fun _ => none) x := by
  induction ps generalizing vs with
  | nil =>
    cases vs with
    | nil => simp [vm_none]
    | cons _ _ => cases hl
  | cons p ps ih =>
    cases vs with
    | nil => cases hl
    | cons v vs =>
      rw [List.nodup_cons] at nd
      rw [List.zip_cons_cons, List.reverse_cons, List.lookup_append, List.cons_append, List.map_cons, List.cons_append, vm]
      by_cases e : x = p
      · rw [e, if_pos rfl, lookup_none nd.1]
        simp
      · rw [if_neg e, ih nd.2 (Nat.succ.inj hl)]
        have : (x == p) = false := beq_eq_false_iff_ne.mpr e
        simp [List.lookup_cons, this]

def envF (f : Fd) (L a : Addr) (cd : Value) : Env := newEnv f.S L mainGlobals [] (f.qual ++ ".<locals>.") (some a) cd none builtinsNs
theorem envF_ok {f : Fd} (h : ScopeOk f.S names gn) (L a : Addr) (cd : Value) : EnvF (envF f L a cd) L names gn :=
  ⟨h.kind, rfl, rfl, rfl, h.nd, h.all, h.gall⟩

/-- a call of a plain def by place -/
theorem call_fun {a : Addr} {f : Fd} {args : List Value} {n : Nat} {ps ls : List Str} {Q : Value → Shared → Prop}
    (hF : Fun K a f) (hG : GB K GL BL) (hK : ∀ b o, K b o → s.heap.get? b = some o) (hA : AOk A (n + 1)) (hS : ScopeOk f.S names gn)
    (hn : names = ps ++ ls) (hv : vals = args.map some ++ ls.map fun _ => none) (hl : ps.length = args.length)
    (hb : ∀ doc pm an cd ct, bindArgs (fnOf f.name f.qual f.P f.B f.S .none .none doc pm an cd ct) ⟨args, []⟩ = pure (ps.zip args))
    (h : ∀ L env s₁ A' (N : Flow → Shared → Prop), s.heap.objs.size ≤ L → AOk A' n → EnvF env L names gn → St ⟨s.heap, K, [], s.os⟩ s.gens K [(L, FrO names vals)] s₁ →
      (∀ fl s', Q (match fl with | .ret v => v | _ => .none) s' → N fl s') → wpAny (model prog w) A' (execs f.B env) N (fun _ _ => False) s₁) :
    wpAny (model prog w) A (call (.ref a) args) Q E s := by
  obtain ⟨doc, pm, an, cd, ct, d, sl, co, vs, t, h1, h2, h3, h4⟩ := hF
  obtain ⟨og, ob, ol, mg, mb, ml, _, _, _, _, hol, hml, hlim, _⟩ := hG
  have lim : s.heap.NoLimit := ⟨ml, ns_of ⟨_, hK _ _ hol, hml⟩, hlim⟩
  have hnd : ps.Nodup := by have := hS.nd; rw [hn] at this; exact (List.nodup_append.mp this).1
  refine wpAny_call (codeAny_call_function hA.room (hK _ _ h1) rfl hS.plain.1 hS.plain.2 rfl ⟨cd, co, vs, t, rfl, hK _ _ h2, h3, h4⟩ ?_)
  rw [hb]
  refine wpAny_pure (wpAny_newFunctionEnv hS.cells (fun x hx => ?_) (fun h' hns hsb => ?_) hS.kind)
  · have : x.1 ∈ ps := by
      obtain ⟨i, hi, e⟩ := List.getElem_of_mem hx
      rw [← e, List.getElem_zip]; exact List.getElem_mem _
    exact (hS.all x.1 (by rw [hn]; exact List.mem_append_left _ this)).1
  refine ⟨lim.fresh _ hsb, codeAny_func ?_⟩
  have S0 : St ⟨s.heap, K, [], s.os⟩ s.gens K [(s.heap.objs.size, fun _ => True)] { s with heap := s.heap.push { cls := .type "frame", data := .dict #[] }, toks := s.toks } := by
    have z := (St.start s K [] hK).grow (h' := s.heap.push { cls := .type "frame", data := .dict #[] }) s.toks (fun b o e => Heap.get?_push_of_some _ e) (by rw [Heap.size_push]; exact Nat.le_succ _)
    exact z.addOwn ⟨_, Heap.get?_push_size _ rfl, trivial⟩ (Nat.le_refl _) (fun _ hp => (nomatch hp)) fun b o hk => Nat.ne_of_lt (Heap.lt_size (hK b o hk))
  have S1 := S0.turn (s.toks + (ps.zip args).length) (P' := FrO names vals) .here hsb (by
    refine of_ns ?_
    have e : (fun x => List.lookup x (ps.zip args).reverse) = vm names vals := by
      funext x
      rw [hn, hv]; exact lookup_vm ls hnd hl x
    rw [← e]; exact hns)
  exact wpAny_mono (h _ (envF f s.heap.objs.size a (.ref cd)) _ _ _ (Nat.le_refl _) (hA.deeper _) (envF_ok hS _ _ _) S1 fun _ _ q => q) (fun _ _ x => x) fun _ _ x => x.elim
end
end

section
/-- a state's names and owned things, said by what follows from them -/
abbrev JC := List (Option Value) → Own → Prop
def Chu (P : Nat → (Value → Prop) → Prop) (i : Nat) (v : Value) : Prop := ∀ C : Value → Prop, P i C → C v
def goesOn : Flow → Bool
  | .next | .cont => true
  | _ => false
def stops (R : Result → Shared → Prop) : Flow → Shared → Prop
  | .brk, s => R (.ok .next) s
  | .ret v, s => R (.ok (.ret v)) s
  | _, _ => False
def notOwnedKind (T : String) : Bool := !["enumerate", "zip", "dict_itemiterator", "dict_reverseitemiterator", "odict_iterator", "itertools.zip_longest", "itertools.pairwise"].contains T

/-- what an iterator over frozen things gives -/
inductive Iter (prog : Program) (w : World) (A : Around) (c : Cx) (K : KP) (I : Addr) (n : Nat) (P : Nat → Value → Prop) (h : Heap) : Prop
  | mk (fp : List Addr) (Wt : Nat → Heap → Prop) (W : Walks prog w A I fp [I] n P Wt) (h1 : Wt 0 h) (h2 : ∀ i h, Wt i h → ∃ o T, h.get? I = some o ∧ o.cls = .type T ∧ notOwnedKind T = true) (h3 : ∀ b ∈ fp, b ≠ I → ∃ o, K b o) (h4 : c.h0.objs.size ≤ I)
/-- what the rest of the walk stands on -/
theorem walk_rest {prog : Program} {w : World} {A : Around} {c : Cx} {g g' : Gs} {K K1 K2 : KP} {I : Addr} {oI : Obj} {own own' : Own} {fp : List Addr} {n i : Nat} {P : Nat → Value → Prop} {Wt : Nat → Heap → Prop} {s s' : Shared} (W : Walks prog w A I fp [I] n P Wt) (hW : Wt i s.heap)
    (h3 : ∀ b ∈ fp, b ≠ I → ∃ o, K b o) (hoI : s.heap.get? I = some oI) (S : St c g K1 own s) (S' : St c g' K2 own' s') (hI : (I, fun x => x = oI) ∈ own') (hle : Le K K1) (hle' : Le K1 K2) : Wt i s'.heap := by
  refine W.frame _ _ _ hW fun b hb o e => ?_
  by_cases hbI : b = I
  · rw [hbI] at e ⊢
    obtain ⟨o', e', x⟩ := S'.owned _ hI
    rw [Option.some.inj (e.symm.trans hoI), ← x]
    exact e'
  · obtain ⟨o', hK⟩ := h3 b hb hbI
    rw [Option.some.inj (e.symm.trans (S.kept b o' (hle _ _ hK)))]
    exact S'.kept b o' (hle' _ _ (hle _ _ hK))
inductive FInv (c : Cx) (g : Gs) (K : KP) (L I : Addr) (names : List Str) (J : Nat → KP → JC → Prop) (Wt : Nat → Heap → Prop) (n k : Nat) (s : Shared) : Prop
  | mk (i : Nat) (K' : KP) (vals : List (Option Value)) (rest : Own) (PI : Pr) (S : St c g K' ((L, FrO names vals) :: (I, PI) :: rest) s) (hW : Wt i s.heap) (hle : Le K K') (hJ : ∀ C, J i K' C → C vals rest) (hi : i ≤ n) (hk : k = n + 1 - i)
inductive WInv (c : Cx) (g : Gs) (K : KP) (L : Addr) (names : List Str) (J : Nat → KP → JC → Prop) (n : Nat) (s : Shared) : Prop
  | mk (K' : KP) (vals : List (Option Value)) (rest : Own) (hle : Le K K') (hJ : ∀ C, J n K' C → C vals rest) (S : St c g K' ((L, FrO names vals) :: rest) s)
section
variable {prog : Program} {w : World} {A : Around} {E : Value → Shared → Prop} {c : Cx} {g : Gs} {K : KP} {own rest : Own} {s : Shared} {env : Env} {L : Addr} {names gn : List Str} {vals : List (Option Value)} {GL BL : List (Str × Value)}

theorem St.perm {own own' : Own} (S : St c g K own s) (h : own'.Perm own) : St c g K own' s :=
  S.sub (fun p hp => h.mem_iff.mp hp) ((h.map (·.1)).nodup_iff.mpr S.nd)
/-- all but the owned I stand, and I holds some object -/
theorem St.walked {p : Addr × Pr} {I : Addr} {PI : Pr} {o : Obj} (S : St c g K (p :: (I, PI) :: rest) s) {h' : Heap} (tk : Nat) (hz : c.h0.objs.size ≤ I)
    (hk : ∀ b o, b ∉ [I] → s.heap.get? b = some o → h'.get? b = some o) (ho : h'.get? I = some o) : St c g K (p :: (I, fun x => x = o) :: rest) { s with heap := h', toks := tk } := by
  have hm : ((I, PI) : Addr × Pr) ∈ p :: (I, PI) :: rest := by simp
  have nd := S.nd
  have hsz : c.h0.objs.size ≤ h'.objs.size := Nat.le_of_lt (Nat.lt_of_le_of_lt hz (Heap.lt_size ho))
  have keep : ∀ b o, b ≠ I → s.heap.get? b = some o → h'.get? b = some o := fun b o hb e => hk b o (by simpa using hb) e
  have nd' : ((p :: (I, fun x => x = o) :: rest).map (·.1)).Nodup := S.nd
  simp only [List.map_cons, List.nodup_cons, List.mem_cons, not_or] at nd
  refine ⟨S.le, S.new, fun b o' h => keep _ _ (S.sep b o' h _ hm) (S.kept b o' h), fun b o' h hb => keep _ _ ?_ (S.base b o' h hb), hsz, fun q hq => ?_, fun q hq => ?_, fun b o' h q hq => ?_, nd', S.gens, S.os⟩
  · rintro rfl
    exact absurd (Heap.lt_size h) (Nat.not_lt.mpr hz)
  · rcases List.mem_cons.mp hq with rfl | hq
    · obtain ⟨o', e, x⟩ := S.owned q List.mem_cons_self
      exact ⟨o', keep _ _ nd.1.1 e, x⟩
    · rcases List.mem_cons.mp hq with rfl | hq
      · exact ⟨o, ho, rfl⟩
      · obtain ⟨o', e, x⟩ := S.owned q (by simp [hq])
        refine ⟨o', keep _ _ (fun h => nd.2.1 ?_) e, x⟩
        rw [← h]; exact List.mem_map_of_mem (f := (·.1)) hq
  · rcases List.mem_cons.mp hq with rfl | hq
    · exact S.ownNew q List.mem_cons_self
    · rcases List.mem_cons.mp hq with rfl | hq
      · exact .inr hz
      · exact S.ownNew q (by simp [hq])
  · rcases List.mem_cons.mp hq with rfl | hq
    · exact S.sep b o' h q List.mem_cons_self
    · rcases List.mem_cons.mp hq with rfl | hq
      · exact S.sep b o' h (I, PI) hm
      · exact S.sep b o' h q (by simp [hq])

theorem St.walkEnd {p : Addr × Pr} {I : Addr} {PI : Pr} (S : St c g K (p :: (I, PI) :: rest) s) {h' : Heap} (tk : Nat) (hz : c.h0.objs.size ≤ I) (hp : c.h0.objs.size ≤ p.1)
    (hk : ∀ b o, b ∉ [I] → s.heap.get? b = some o → h'.get? b = some o) : St c g K (p :: rest) { s with heap := h', toks := tk } := by
  have keep : ∀ b o, b ≠ I → s.heap.get? b = some o → h'.get? b = some o := fun b o hb e => hk b o (by simpa using hb) e
  have nd := S.nd
  simp only [List.map_cons, List.nodup_cons, List.mem_cons, not_or] at nd
  have S'' := S.drop1
  refine ⟨S''.le, S''.new, fun b o h => keep _ _ (S.sep b o h (I, PI) (by simp)) (S.kept b o h), fun b o h hb => keep _ _ ?_ (S.base b o h hb), ?_, fun q hq => ?_, S''.ownNew, S''.sep, S''.nd, S''.gens, S''.os⟩
  · rintro rfl
    exact absurd (Heap.lt_size h) (Nat.not_lt.mpr hz)
  · obtain ⟨o, e, _⟩ := S.owned p List.mem_cons_self
    exact Nat.le_of_lt (Nat.lt_of_le_of_lt hp (Heap.lt_size (keep _ _ nd.1.1 e)))
  · obtain ⟨o, e, x⟩ := S''.owned q hq
    refine ⟨o, keep _ _ ?_ e, x⟩
    rcases List.mem_cons.mp hq with rfl | hq
    · exact nd.1.1
    · rintro h
      exact nd.2.1 (by rw [← h]; exact List.mem_map_of_mem (f := (·.1)) hq)

theorem letGo_none {target : Expr} {I : Addr} {v : Value} {o : Obj} {T : String} {Q : Unit → Shared → Prop} {s : Shared} (ho : s.heap.get? I = some o) (hc : o.cls = .type T) (hT : notOwnedKind T = true) (h : Q () s) :
    wpAny (model prog w) A (letOwnedTupleGo target (.ref I) v) Q E s := by
  have key : ∀ a, wpAny (model prog w) A (do
      let o ← load I
      match o.cls, o.data with
      | .type n, .fields vs =>
        if ["enumerate", "zip", "dict_itemiterator", "dict_reverseitemiterator", "odict_iterator", "itertools.zip_longest", "itertools.pairwise"].contains n && vs[0]? == some (rawInt a) then
          rule "for.unpacks-the-owned-tuple"
          updateField I 0 .none
      | _, _ => pure ()) Q E s := by
    intro a
    refine wpAny_bind (wpAny_load ho ?_)
    rw [hc]
    have : (["enumerate", "zip", "dict_itemiterator", "dict_reverseitemiterator", "odict_iterator", "itertools.zip_longest", "itertools.pairwise"].contains T) = false := by
      unfold notOwnedKind at hT
      simpa using hT
    cases o.data with
    | fields vs =>
      show wpAny _ _ (if (_ && _) = true then _ else _) _ _ _
      rw [this, Bool.false_and]
      exact wpAny_pure h
    | _ => exact wpAny_pure h
  unfold letOwnedTupleGo
  cases target <;> first
    | exact wpAny_pure h
    | (cases v <;> first | exact wpAny_pure h | exact key _)

theorem for_j {target : Expr} {body : List Stmt} {I : Addr} {PI : Pr} {n : Nat} {P : Nat → (Value → Prop) → Prop} {R : Result → Shared → Prop}
    (J : Nat → KP → JC → Prop)
    (S : St c g K ((L, FrO names vals) :: (I, PI) :: rest) s) (hL : c.h0.objs.size ≤ L) (W : Iter prog w A c K I n (Chu P) s.heap)
    (h0 : ∀ C, J 0 K C → C vals rest)
    (turn : ∀ i K' s PI E' (N : Flow → Shared → Prop), i < n → Le K K' →
      (∀ f K'' vals' rest' s₃, goesOn f = true → Le K' K'' → (∀ C, J (i + 1) K'' C → C vals' rest') → St c g K'' ((L, FrO names vals') :: (I, PI) :: rest') s₃ → N f s₃) →
      (∀ f s₃, stops R f s₃ → N f s₃) →
      J i K' fun vals rest => St c g K' ((L, FrO names vals) :: (I, PI) :: rest) s → P i fun v =>
        wpAny (model prog w) A (assign target env v) (fun _ s₂ => wpAny (model prog w) A (execs body env) N E' s₂) E' s)
    (done : ∀ K' s, Le K K' → J n K' fun vals rest => St c g K' ((L, FrO names vals) :: rest) s → R (.ok .next) s) :
    codeAny (model prog w) A (.forLoop target (.ref I) body [] env) R s := by
  cases W with | mk fp Wt W h1 h2 h3 h4
  refine codeAny_forLoop_any (FInv c g K L I names J Wt n) ?_ (n + 1) (.mk 0 K vals rest PI S h1 (Le.refl K) h0 (Nat.zero_le _) rfl)
  intro k s' hV
  cases hV with | mk i K' vals' rest' PI' S' hW' hle hJ hi hk
  by_cases hlt : i < n
  · refine W.item i s' _ _ hlt hW' fun v h' tk hP hW'' hkp => ?_
    obtain ⟨oI, T, hoI, hT, hTk⟩ := h2 _ _ hW''
    have S₁ := S'.walked tk h4 hkp hoI
    refine letGo_none hoI hT hTk (hP _ (hJ _ (turn i K' _ _ _ _ hlt hle (fun f K'' vals'' rest'' s₃ ha hle' hJ' S₃ => ?_) fun f s₃ h => ?_) S₁))
    · have fin : ∃ m, m < k ∧ FInv c g K L I names J Wt n m s₃ := ⟨n + 1 - (i + 1), by rw [hk]; exact om57 hlt, .mk (i + 1) K'' vals'' rest'' _ S₃ (walk_rest W hW'' h3 hoI S₁ S₃ (.tail _ (.head _)) hle hle') (hle.trans hle') hJ' hlt rfl⟩
      cases f with
      | next => exact fin
      | cont => exact fin
      | brk => cases ha
      | ret v => cases ha
    · cases f with
      | next => exact h.elim
      | cont => exact h.elim
      | brk => exact h
      | ret v => exact h
  · have hin : i = n := by exact om56 hi hlt
    refine W.done s' _ _ (hin ▸ hW') fun h' tk hkp => wpAny_execs_nil ?_
    exact (hJ (fun vals rest => St c g K' ((L, FrO names vals) :: rest) { s' with heap := h', toks := tk } → R (.ok .next) { s' with heap := h', toks := tk }) (by rw [hin]; exact done K' _ hle)) (S'.walkEnd tk h4 hL hkp)

theorem while_j {test : Expr} {body : List Stmt} {R : Result → Shared → Prop} (n : Nat)
    (J : Nat → KP → JC → Prop)
    (S : St c g K ((L, FrO names vals) :: rest) s)
    (h0 : ∀ C, J n K C → C vals rest)
    (turn : ∀ n K' s E' (N : Flow → Shared → Prop) (Nf : Shared → Prop), Le K K' →
      (∀ f m K'' vals' rest' s₃, goesOn f = true → m < n → Le K' K'' → (∀ C, J m K'' C → C vals' rest') → St c g K'' ((L, FrO names vals') :: rest') s₃ → N f s₃) →
      (∀ f s₃, stops R f s₃ → N f s₃) → (∀ s, R (.ok .next) s → Nf s) →
      J n K' fun vals rest => St c g K' ((L, FrO names vals) :: rest) s →
        wpAny (model prog w) A (isTrue test env (eval test env)) (fun b s₂ => if b = true then wpAny (model prog w) A (execs body env) N E' s₂ else Nf s₂) E' s) :
    codeAny (model prog w) A (.whileLoop test body [] env) R s := by
  refine codeAny_whileLoop (WInv c g K L names J) ?_ n (.mk K vals rest (Le.refl K) h0 S)
  intro m s hV
  cases hV with | mk K' vals' rest' hle hJ S'
  refine hJ _ (turn m K' s _ _ _ hle (fun f m' K'' vals'' rest'' s₃ ha hm hle' hJ' S₃ => ?_) (fun f s₃ h => ?_) fun s h => wpAny_execs_nil h) S'
  · have fin : ∃ m', m' < m ∧ WInv c g K L names J m' s₃ := ⟨m', hm, .mk K'' vals'' rest'' (hle.trans hle') hJ' S₃⟩
    cases f with
    | next => exact fin
    | cont => exact fin
    | brk => cases ha
    | ret v => cases ha
  · cases f with
    | next => exact h.elim
    | cont => exact h.elim
    | brk => exact h
    | ret v => exact h

end
end

section
section
variable {prog : Program} {w : World} {A : Around} {E : Value → Shared → Prop} {c : Cx} {g : Gs} {K : KP} {own rest : Own} {s : Shared} {env : Env} {L : Addr} {names gn : List Str} {vals : List (Option Value)} {GL BL : List (Str × Value)}

/-- the owned a is let go, whatever became of it -/
theorem St.lose {a : Addr} {P : Pr} {p : Addr × Pr} (S : St c g K ((a, P) :: p :: rest) s) (hp : c.h0.objs.size ≤ a) {h' : Heap} (tk : Nat) (hs : Heap.SameBut a s.heap h') : St c g K (p :: rest) { s with heap := h', toks := tk } := by
  have S' := S.drop0
  have nd := S.nd
  simp only [List.map_cons, List.nodup_cons, List.mem_cons, not_or] at nd
  refine ⟨S'.le, S'.new, fun b o h => ?_, fun b o h hb => ?_, by rw [hs.1]; exact S.size, fun q hq => ?_, S'.ownNew, S'.sep, S'.nd, S'.gens, S'.os⟩
  · show h'.get? b = some o
    rw [hs.2 b (S.sep b o h (a, P) List.mem_cons_self)]; exact S.kept b o h
  · show h'.get? b = some o
    rw [hs.2 b (fun e => absurd (Heap.lt_size h) (by rw [e]; exact Nat.not_lt.mpr hp))]; exact S.base b o h hb
  · obtain ⟨o, e, x⟩ := S'.owned q hq
    refine ⟨o, (hs.2 _ ?_).trans e, x⟩
    rcases List.mem_cons.mp hq with rfl | hq
    · exact fun h => nd.1.1 h.symm
    · exact fun h => nd.1.2 (by rw [← h]; exact List.mem_map_of_mem (f := (·.1)) hq)

theorem lookup_relabel_glob {env : Env} : ∀ {names : List (Str × NameKind)} {x : Str}, names.lookup x = some .globalImplicit →
    (names.map fun (n, k) => if (k == NameKind.free && env.scope.kind == .function && env.kindOf n == some .cell) then (n, NameKind.cell) else (n, k)).lookup x = some .globalImplicit
  | [], _, h => by simp at h
  | (n, k) :: r, x, h => by
    have ih := @lookup_relabel_glob env r x
    show List.lookup x ((if (k == NameKind.free && env.scope.kind == .function && env.kindOf n == some .cell) = true then (n, NameKind.cell) else (n, k)) :: _) = _
    cases hx : x == n with
    | true =>
      simp only [List.lookup_cons, hx] at h
      cases h
      simp [List.lookup_cons, hx]
    | false =>
      simp only [List.lookup_cons, hx] at h
      by_cases hc : (k == NameKind.free && env.scope.kind == .function && env.kindOf n == some .cell) = true
      · rw [if_pos hc]; simp only [List.lookup_cons, hx]; exact ih h
      · rw [if_neg hc]; simp only [List.lookup_cons, hx]; exact ih h
theorem comp_env {scope : Scope} {x : Str} {cgn : List Str} {cl : List (Str × Addr)} (he : EnvF env L names gn) (hk : scope.kind = .function) (hx : scope.names.lookup x = some .local ∧ (x == ("__debug__" : Str)) = false)
    (hg : ∀ y ∈ cgn, scope.names.lookup y = some .globalImplicit ∧ (y == ("__debug__" : Str)) = false) (C : Addr) : EnvF (compEnvC scope cl C env) C [x] cgn :=
  ⟨hk, rfl, he.glob, he.blt, by simp, fun y hy => by rw [List.mem_singleton.mp hy]; exact ⟨lookup_relabel_local hx.1, hx.2⟩, fun y hy => ⟨lookup_relabel_glob (hg y hy).1, (hg y hy).2⟩⟩

def CompRun (prog : Program) (w : World) (A : Around) (E : Value → Shared → Prop) (elt : Expr) (x : Str) (px : Pos) (iter : Expr) (ifs : List Expr) (scope : Scope) (pos : Pos) (cl : List (Str × Addr)) (env : Env) (use : Option (Value → Sem Unit)) (Q : Value → Shared → Prop) (it : Value) (s : Shared) : Prop :=
  wpAny (model prog w) A (newList []) (fun acc s₃ => wpAny (model prog w) A (newFunctionEnv scope env.globals cl [] env.qual none .none (some env)) (fun cenv s₄ =>
    codeAny (model prog w) A (.compStart (.ListComp elt [⟨.Name x px, iter, ifs, 0⟩] scope pos) 0 it acc { cenv with scope := relabel scope env }) (compPost (model prog w) A E use Q acc cenv.locals) s₄) E s₃) E s

theorem ev_comp {elt iter : Expr} {x : Str} {px : Pos} {ifs : List Expr} {scope : Scope} {cl : List (Str × Addr)} {pos : Pos} {Q : Value → Shared → Prop}
    (hclos : closureFor scope env = pure cl) (hkind : scope.kind = .function) (hnames : ∀ y ∈ scope.names, y.2 = .local → scope.names.lookup y.1 = some .local)
    (h : wpAny (model prog w) A (eval iter env) (fun xv s₁ => wpAny (model prog w) A (pyIter xv) (CompRun prog w A E elt x px iter ifs scope pos cl env none Q) E s₁) E s)
    (hs : ∀ x, foldedSetIterable iter env x = pure x := by intro _; rfl) :
    wpAny (model prog w) A (eval (.ListComp elt [⟨.Name x px, iter, ifs, 0⟩] scope pos) env) Q E s := by
  rw [eval_ListComp]
  exact wpAny_comprehension_free (use := none) rfl hs hclos hkind hnames h

inductive CInv (c : Cx) (K : KP) (p : Addr × Pr) (C I D : Addr) (x : Str) (J : Nat → Gs → KP → List Value → Own → Prop) (Wt : Nat → Heap → Prop) (n k : Nat) (s : Shared) : Prop
  | mk (i : Nat) (g : Gs) (K' : KP) (ys : List Value) (rest : Own) (PI : Pr) (cv : Option Value) (S : St c g K' ((C, FrO [x] [cv]) :: (I, PI) :: (D, LpO ys) :: p :: rest) s) (hW : Wt i s.heap) (hle : Le K K') (hJ : J i g K' ys rest) (hi : i ≤ n) (hk : k = n + 1 - i)
theorem perm3 {α : Type} (a b d : α) (r : List α) : (a :: b :: d :: r).Perm (d :: b :: a :: r) := ((List.Perm.swap b a (d :: r)).trans (.cons b (.swap d a r))).trans (.swap d b (a :: r))
theorem run_compG {elt iter : Expr} {x : Str} {px : Pos} {ifs : List Expr} {scope : Scope} {cl : List (Str × Addr)} {pos : Pos} {use : Option (Value → Sem Unit)} {Q : Value → Shared → Prop}
    {p : Addr × Pr} {I : Addr} {PI : Pr} {n : Nat} {P : Nat → Value → Prop} {cgn : List Str}
    (J : Nat → Gs → KP → List Value → Own → Prop)
    (S : St c g K (p :: (I, PI) :: rest) s) (W : Iter prog w A c K I n P s.heap)
    (hcell : ∀ y ∈ scope.names, y.2 ≠ .cell) (hkind : scope.kind = .function)
    (hce : ∀ C, EnvF (compEnvC scope cl C env) C [x] cgn)
    (hsz : n ≤ sizeLine)
    (h0 : J 0 g K [] rest)
    (turn : ∀ i g K' ys rest s v PI C D E' (N : Value → Shared → Prop) (Nf : Shared → Prop), i < n → Le K K' → J i g K' ys rest → P i v → St c g K' ((C, FrO [x] [some v]) :: (I, PI) :: (D, LpO ys) :: p :: rest) s → c.h0.objs.size ≤ C → EnvF (compEnvC scope cl C env) C [x] cgn →
      (∀ y g' K'' rest' PC s₄, Le K' K'' → J (i + 1) g' K'' (ys ++ [y]) rest' → St c g' K'' ((C, FrO [x] [PC]) :: (I, PI) :: (D, LpO ys) :: p :: rest') s₄ → N y s₄) →
      (∀ g' K'' rest' PC s₃, Le K' K'' → J (i + 1) g' K'' ys rest' → St c g' K'' ((C, FrO [x] [PC]) :: (I, PI) :: (D, LpO ys) :: p :: rest') s₃ → Nf s₃) →
      wpAny (model prog w) A (forIn ifs true fun t r => if r = true then do let ok ← isTrue t (compEnvC scope cl C env) (eval t (compEnvC scope cl C env)); pure (ForInStep.yield ok) else pure (ForInStep.yield r)) (fun ok s₃ =>
        if ok = true then wpAny (model prog w) A (eval elt (compEnvC scope cl C env)) N E' s₃ else Nf s₃) E' s)
    (hlen : ∀ i g K ys rest, J i g K ys rest → ys.length ≤ i)
    (done : ∀ g K' ys rest s C D cv, Le K K' → J n g K' ys rest → c.h0.objs.size ≤ C → St c g K' ((C, FrO [x] [cv]) :: (D, LpO ys) :: p :: rest) s → compPost (model prog w) A E use Q (.ref D) C (.ok .next) s) :
    CompRun prog w A E elt x px iter ifs scope pos cl env use Q (.ref I) s := by
  cases W with | mk fp Wt hW h1 h2 h3 h4
  unfold CompRun
  refine wpAny_newList ?_
  have S1 := S.alloc (listOf ([] : List Value).toArray 0) (P := LpO []) ⟨0, rfl⟩ rfl s.toks
  have hpush : ∀ (hp : Heap) (o : Obj) b o', hp.get? b = some o' → (hp.push o).get? b = some o' := fun hp o b o' e => Heap.get?_push_of_some _ e
  have w1 : Wt 0 (s.heap.push (listOf ([] : List Value).toArray 0)) := hW.frame _ _ _ h1 fun b _ o e => hpush _ _ _ _ e
  have hDz := S.size
  generalize s.heap.objs.size = D at S1 hDz ⊢
  refine wpAny_newFunctionEnv hcell (fun y hy => (nomatch hy)) (fun h' hns hsb => ?_) hkind
  change St c g K (p :: (D, LpO []) :: (I, PI) :: rest) { s with heap := s.heap.push (listOf ([] : List Value).toArray 0), toks := s.toks } at S1
  have e1 : s.heap.push (listOf ([] : List Value).toArray 0) = ({ s with heap := s.heap.push (listOf ([] : List Value).toArray 0), toks := s.toks } : Shared).heap := rfl
  rw [e1] at w1
  generalize ({ s with heap := s.heap.push (listOf ([] : List Value).toArray 0), toks := s.toks } : Shared) = s1 at S1 w1 hns hsb ⊢
  have S2 : St c g K (p :: (s1.heap.objs.size, fun _ => True) :: (D, LpO []) :: (I, PI) :: rest) { s1 with heap := s1.heap.push { cls := .type "dict", data := .dict #[] }, toks := s1.toks } :=
    S1.alloc { cls := .type "dict", data := .dict #[] } trivial rfl _
  have hCz : c.h0.objs.size ≤ s1.heap.objs.size := S1.size
  have S3 := S2.perm ((List.Perm.cons _ (perm3 (I, PI) (D, LpO []) p rest)).trans (List.Perm.swap _ _ _))
  have w2 : Wt 0 (s1.heap.push { cls := .type "dict", data := .dict #[] }) := hW.frame _ _ _ w1 fun b _ o e => hpush _ _ _ _ e
  generalize s1.heap.objs.size = C at hns hsb S3 hCz ⊢
  have S4 : St c g K ((C, FrO [x] [none]) :: (I, PI) :: (D, LpO []) :: p :: rest) { s1 with heap := h', toks := s1.toks + ([] : List (Str × Value)).length } := by
    refine S3.turn _ .here hsb (of_ns ?_)
    have e : (fun y => List.lookup y (List.reverse ([] : List (Str × Value)))) = vm [x] [none] := by
      funext y
      by_cases e : y = x <;> simp [vm, e]
    rw [← e]; exact hns
  have w3 : Wt 0 h' := hW.frame _ _ _ w2 fun b hb o e => by
    refine (hsb.2 b ?_).trans e
    rintro rfl
    by_cases hbI : b = I
    · subst hbI
      have := S3.nd
      simp at this
    · obtain ⟨o', hK⟩ := h3 b hb hbI
      exact S3.sep b o' hK (b, fun _ => True) List.mem_cons_self rfl
  clear S S1 S2 S3 w1 w2 hns hsb e1 hpush
  have loop : codeAny (model prog w) A (.compLoop (.ListComp elt [⟨.Name x px, iter, ifs, 0⟩] scope pos) 0 (.ref I) (.ref D) (compEnvC scope cl C env)) (compPost (model prog w) A E use Q (.ref D) C) { s1 with heap := h', toks := s1.toks + ([] : List (Str × Value)).length } := by
    refine codeAny_compLoop_tests (CInv c K p C I D x J Wt n) ?_ (n + 1) (.mk 0 g K [] rest PI none S4 w3 (Le.refl K) h0 (Nat.zero_le _) rfl) (fun _ => rfl)
    clear S4 w3
    intro k s' hV
    cases hV with | mk i g' K' ys rest' PI' cv S' hW' hle hJ hi hk
    by_cases hlt : i < n
    · refine hW.item i s' _ _ hlt hW' fun v h' tk hP hW'' hkp => ?_
      obtain ⟨oI, _, hoI, _⟩ := h2 _ _ hW''
      have S₁ := S'.walked tk h4 hkp hoI
      refine wpAny_assign_Name (st_loc S₁ (hce C) .here fun s₂ S₂ => ?_)
      have fin : ∀ g'' K'' ys' rest'' PC s₃, Le K' K'' → J (i + 1) g'' K'' ys' rest'' → St c g'' K'' ((C, FrO [x] [PC]) :: (I, fun x => x = oI) :: (D, LpO ys') :: p :: rest'') s₃ → ∃ m, m < k ∧ CInv c K p C I D x J Wt n m s₃ :=
        fun g'' K'' ys' rest'' PC s₃ hle' hJ' S₃ => ⟨n + 1 - (i + 1), by rw [hk]; exact om57 hlt, .mk (i + 1) g'' K'' ys' rest'' _ PC S₃ (walk_rest hW hW'' h3 hoI S₁ S₃ (.tail _ (.head _)) hle hle') (hle.trans hle') hJ' hlt rfl⟩
      refine turn i g' K' ys rest' s₂ v _ C D _ _ _ hlt hle hJ hP S₂ hCz (hce C) (fun y g'' K'' rest'' PC s₄ hle' hJ' S₄ => ?_) fun g'' K'' rest'' PC s₃ hle' hJ' S₃ => fin g'' K'' ys rest'' PC s₃ hle' hJ' S₃
      have hl : ys.length ≤ sizeLine := Nat.le_trans (hlen _ _ _ _ _ hJ) (Nat.le_trans hi hsz)
      refine wpAny_list_append_plain (lp_plain (S₄.owned (D, LpO ys) (.tail _ (.tail _ (.head _))))) (fun h₅ hp hs => ?_) (by simpa using hl)
      exact fin g'' K'' (ys ++ [y]) rest'' PC _ hle' hJ' (S₄.turn _ (.there (.there .here)) hs (plain_lp (by simpa using hp)))
    · have hin : i = n := by exact om56 hi hlt
      refine hW.done s' _ _ (hin ▸ hW') fun h' tk hkp => ?_
      exact done g' K' ys rest' _ C D _ hle (hin ▸ hJ) hCz (S'.walkEnd tk h4 hCz hkp)
  exact codeAny_compStart_list loop (hW.self 0 _ _ _ w3 loop)

theorem run_comp {elt iter : Expr} {x : Str} {px : Pos} {ifs : List Expr} {scope : Scope} {cl : List (Str × Addr)} {pos : Pos} {Q : Value → Shared → Prop}
    {p : Addr × Pr} {I : Addr} {PI : Pr} {n : Nat} {P : Nat → Value → Prop} {cgn : List Str}
    (J : Nat → Gs → KP → List Value → Own → Prop)
    (S : St c g K (p :: (I, PI) :: rest) s) (W : Iter prog w A c K I n P s.heap)
    (hcell : ∀ y ∈ scope.names, y.2 ≠ .cell) (hkind : scope.kind = .function)
    (hce : ∀ C, EnvF (compEnvC scope cl C env) C [x] cgn)
    (hsz : n ≤ sizeLine)
    (h0 : J 0 g K [] rest)
    (turn : ∀ i g K' ys rest s v PI C D E' (N : Value → Shared → Prop) (Nf : Shared → Prop), i < n → Le K K' → J i g K' ys rest → P i v → St c g K' ((C, FrO [x] [some v]) :: (I, PI) :: (D, LpO ys) :: p :: rest) s → c.h0.objs.size ≤ C → EnvF (compEnvC scope cl C env) C [x] cgn →
      (∀ y g' K'' rest' PC s₄, Le K' K'' → J (i + 1) g' K'' (ys ++ [y]) rest' → St c g' K'' ((C, FrO [x] [PC]) :: (I, PI) :: (D, LpO ys) :: p :: rest') s₄ → N y s₄) →
      (∀ g' K'' rest' PC s₃, Le K' K'' → J (i + 1) g' K'' ys rest' → St c g' K'' ((C, FrO [x] [PC]) :: (I, PI) :: (D, LpO ys) :: p :: rest') s₃ → Nf s₃) →
      wpAny (model prog w) A (forIn ifs true fun t r => if r = true then do let ok ← isTrue t (compEnvC scope cl C env) (eval t (compEnvC scope cl C env)); pure (ForInStep.yield ok) else pure (ForInStep.yield r)) (fun ok s₃ =>
        if ok = true then wpAny (model prog w) A (eval elt (compEnvC scope cl C env)) N E' s₃ else Nf s₃) E' s)
    (hlen : ∀ i g K ys rest, J i g K ys rest → ys.length ≤ i)
    (done : ∀ g K' ys rest s D, Le K K' → J n g K' ys rest → St c g K' (p :: (D, LpO ys) :: rest) s → Q (.ref D) s) :
    CompRun prog w A E elt x px iter ifs scope pos cl env none Q (.ref I) s :=
  run_compG (use := none) J S W hcell hkind hce hsz h0 turn hlen fun g' K' ys rest' s' C D cv hle hJ hCz S₁ => ⟨_, S₁.ns, fun _ hs => done g' K' ys rest' _ D hle hJ ((S₁.lose hCz _ hs).swap)⟩
/-- a comprehension whose list goes into a local of the same line -/
theorem run_compU {elt iter : Expr} {x y : Str} {px py : Pos} {ifs : List Expr} {scope : Scope} {cl : List (Str × Addr)} {pos : Pos} {Q : Value → Shared → Prop}
    {I : Addr} {PI : Pr} {n : Nat} {P : Nat → Value → Prop} {cgn : List Str}
    (J : Nat → Gs → KP → List Value → Own → Prop)
    (S : St c g K ((L, FrO names vals) :: (I, PI) :: rest) s) (he : EnvF env L names gn) (W : Iter prog w A c K I n P s.heap)
    (hcell : ∀ y ∈ scope.names, y.2 ≠ .cell) (hkind : scope.kind = .function)
    (hce : ∀ C, EnvF (compEnvC scope cl C env) C [x] cgn)
    (hsz : n ≤ sizeLine)
    (h0 : J 0 g K [] rest)
    (turn : ∀ i g K' ys rest s v PI C D E' (N : Value → Shared → Prop) (Nf : Shared → Prop), i < n → Le K K' → J i g K' ys rest → P i v → St c g K' ((C, FrO [x] [some v]) :: (I, PI) :: (D, LpO ys) :: (L, FrO names vals) :: rest) s → c.h0.objs.size ≤ C → EnvF (compEnvC scope cl C env) C [x] cgn →
      (∀ y g' K'' rest' PC s₄, Le K' K'' → J (i + 1) g' K'' (ys ++ [y]) rest' → St c g' K'' ((C, FrO [x] [PC]) :: (I, PI) :: (D, LpO ys) :: (L, FrO names vals) :: rest') s₄ → N y s₄) →
      (∀ g' K'' rest' PC s₃, Le K' K'' → J (i + 1) g' K'' ys rest' → St c g' K'' ((C, FrO [x] [PC]) :: (I, PI) :: (D, LpO ys) :: (L, FrO names vals) :: rest') s₃ → Nf s₃) →
      wpAny (model prog w) A (forIn ifs true fun t r => if r = true then do let ok ← isTrue t (compEnvC scope cl C env) (eval t (compEnvC scope cl C env)); pure (ForInStep.yield ok) else pure (ForInStep.yield r)) (fun ok s₃ =>
        if ok = true then wpAny (model prog w) A (eval elt (compEnvC scope cl C env)) N E' s₃ else Nf s₃) E' s)
    (hlen : ∀ i g K ys rest, J i g K ys rest → ys.length ≤ i)
    (hu : ∀ D, ∃ vals', Up names vals y (.ref D) vals' ∧ ∀ g K' ys rest s, Le K K' → J n g K' ys rest → St c g K' ((L, FrO names vals') :: (D, LpO ys) :: rest) s → Q .none s) :
    CompRun prog w A E elt x px iter ifs scope pos cl env (some (assign (.Name y py) env)) Q (.ref I) s := by
  refine run_compG (use := some (assign (.Name y py) env)) J S W hcell hkind hce hsz h0 turn hlen fun g' K' ys rest' s' C D cv hle hJ hCz S₁ => ?_
  obtain ⟨vals', up, done⟩ := hu D
  have S₂ := S₁.perm ((List.Perm.swap (C, FrO [x] [cv]) (L, FrO names vals) _).trans (.cons _ (.swap _ _ _)))
  refine wpAny_assign_Name (st_loc S₂ he up fun s₃ S₃ => ?_)
  have S₄ := S₃.swap
  exact ⟨_, S₄.ns, fun h'' hs => done g' K' ys rest' _ hle hJ (S₄.lose hCz _ hs)⟩

/-- x = [.. for ..], stored before the comprehension's own names go -/
theorem x_comp {elt iter : Expr} {x y : Str} {px py spos : Pos} {ifs : List Expr} {scope : Scope} {cl : List (Str × Addr)} {pos : Pos} {Q : Flow → Shared → Prop}
    (hsw : swapsWith (.ListComp elt [⟨.Name x px, iter, ifs, 0⟩] scope pos) (some (.Name y py)) spos.line env = pure true)
    (hclos : closureFor scope env = pure cl) (hkind : scope.kind = .function) (hnames : ∀ y ∈ scope.names, y.2 = .local → scope.names.lookup y.1 = some .local)
    (h : wpAny (model prog w) A (eval iter env) (fun xv s₁ => wpAny (model prog w) A (pyIter xv) (CompRun prog w A E elt x px iter ifs scope pos cl env (some (assign (.Name y py) env)) (fun _ => Q .next)) E s₁) E s)
    (hs : ∀ x, foldedSetIterable iter env x = pure x := by intro _; rfl) :
    wpAny (model prog w) A (exec (.Assign [.Name y py] (.ListComp elt [⟨.Name x px, iter, ifs, 0⟩] scope pos) spos) env) Q E s := by
  rw [exec_Assign_Name_used _ _ _ _ hsw]
  refine wpAny_bind (wpAny_standAt (wpAny_bind ?_))
  rw [arm_evalThenUse_ListComp]
  refine wpAny_bind (wpAny_mono (wpAny_comprehension_free (use := some (assign (.Name y py) env)) (Q := fun _ => Q .next) rfl hs hclos hkind hnames h) (fun _ _ q => wpAny_pure (wpAny_pure q)) fun _ _ e => e)
theorem swaps_comp {elt iter : Expr} {x y : Str} {px py spos : Pos} {ifs : List Expr} {scope : Scope} {pos : Pos} (he : EnvF env L names gn) (hy : env.kindOf y = some .local) (hl : py.line = pos.line)
    (hn : (scope.names.any fun (n, k) => n == y && (k == .local || k == .cell)) = false) :
    swapsWith (.ListComp elt [⟨.Name x px, iter, ifs, 0⟩] scope pos) (some (.Name y py)) spos.line env = pure true := by
  show (pure (env.blockKind == .function && env.kindOf y == some .local && py.line == pos.line && !(scope.names.any fun (n, k) => n == y && (k == .local || k == .cell))) : Sem Bool) = pure true
  have hb : env.blockKind = .function := by unfold Env.blockKind; rw [he.kind]; rfl
  rw [hb, hy, hl, hn]
  simp
theorem swaps_not {elt iter : Expr} {x y : Str} {px py : Pos} {line : Nat} {ifs : List Expr} {scope : Scope} {pos : Pos} (hy : env.kindOf y = some .cell) :
    swapsWith (.ListComp elt [⟨.Name x px, iter, ifs, 0⟩] scope pos) (some (.Name y py)) line env = pure false := by
  show (pure (env.blockKind == .function && env.kindOf y == some .local && py.line == pos.line && !(scope.names.any fun (n, k) => n == y && (k == .local || k == .cell))) : Sem Bool) = pure false
  rw [hy]
  have : (some NameKind.cell == some NameKind.local) = false := rfl
  rw [this, Bool.and_false, Bool.false_and, Bool.false_and]
end
end

section
/-- a range object stands -/
def Rng (K : KP) (r : Addr) (a n : Int) : Prop := ∃ t u v, K r { cls := .type "range", data := .fields #[.int a t, .int n u, .int 1 v] }

section
variable {prog : Program} {w : World} {A : Around} {E : Value → Shared → Prop} {c : Cx} {g : Gs} {K : KP} {own rest : Own} {s : Shared} {env : Env} {L : Addr} {names gn : List Str} {vals : List (Option Value)} {mv : Mm} {GL BL : List (Str × Value)}

/-- a frozen plain list -/
inductive RdL (K : KP) (v : Value) (ds : List PyData) : Prop
  | mk (a : Addr) (o : Obj) (vs : List Value) (hv : v = .ref a) (hk : K a o) (hl : LpO vs o) (hr : RdAll K vs ds)
theorem RdL.rd {K : KP} {v : Value} {ds : List PyData} (h : RdL K v ds) : Rd K v (.list ds) := by
  obtain ⟨a, o, vs, rfl, k, l, r⟩ := h
  exact l.rd k r
theorem RdL.mono {K K' : KP} {v : Value} {ds : List PyData} (h : RdL K v ds) (l : Le K K') : RdL K' v ds := by
  obtain ⟨a, o, vs, rfl, k, h, r⟩ := h
  exact ⟨a, o, vs, rfl, l _ _ k, h, r.mono l⟩
theorem St.rdl {c : Cx} {g : Gs} {K : KP} {own : Own} {s : Shared} {v : Value} {ds : List PyData} (S : St c g K own s) (h : RdL K v ds) : ∃ a vs, v = .ref a ∧ (∃ o, s.heap.get? a = some o ∧ LpO vs o) ∧ RdAll K vs ds := by
  obtain ⟨a, o, vs, rfl, k, l, r⟩ := h
  exact ⟨a, vs, rfl, ⟨o, S.kept _ _ k, l⟩, r⟩

theorem no_ifs {prog : Program} {w : World} {A : Around} {E : Value → Shared → Prop} {s : Shared} {f : Expr → Bool → Sem (ForInStep Bool)} {Q : Bool → Shared → Prop} (h : Q true s) : wpAny (model prog w) A (forIn ([] : List Expr) true f) Q E s := by
  rw [List.forIn_nil]; exact wpAny_pure h
theorem one_if {prog : Program} {w : World} {A : Around} {E : Value → Shared → Prop} {s : Shared} {env : Env} {t : Expr} {Q : Bool → Shared → Prop} (h : wpAny (model prog w) A (PySem.isTrue t env (eval t env)) Q E s) :
    wpAny (model prog w) A (forIn [t] true fun t r => if r = true then do let ok ← PySem.isTrue t env (eval t env); pure (ForInStep.yield ok) else pure (ForInStep.yield r)) Q E s := by
  rw [List.forIn_cons]
  refine wpAny_bind ?_
  rw [if_pos rfl]
  refine wpAny_bind (wpAny_mono h (fun b s' h' => wpAny_pure ?_) fun _ _ e => e)
  show wpAny _ _ (forIn [] b _) _ _ _
  rw [List.forIn_nil]; exact wpAny_pure h'
theorem take_snoc {α β : Type} (f : α → β) {l : List α} {i : Nat} {x : α} (h : l[i]? = some x) : (l.take (i + 1)).map f = (l.take i).map f ++ [f x] := by
  rw [List.take_add_one, h]; simp

theorem ite_b {b : Bool} {X Y : Prop} (h1 : b = true → X) (h2 : b = false → Y) : if b = true then X else Y := by
  cases b with
  | true => exact h1 rfl
  | false => exact h2 rfl
theorem ite_d {p : Prop} [Decidable p] {X Y : Prop} (h1 : p → X) (h2 : ¬ p → Y) : if decide p = true then X else Y := by
  by_cases h : p
  · rw [if_pos (decide_eq_true h)]; exact h1 h
  · rw [if_neg (by rw [decide_eq_false h]; exact Bool.false_ne_true)]; exact h2 h

theorem St.listAt {a : Addr} {vs : List Value} (S : St c g K own s) (h : (a, LpO vs) ∈ own) : s.heap.IsList a vs.toArray := lp_is (S.owned _ h)
theorem St.rdList {v : Value} {ds : List PyData} (S : St c g K own s) (h : Rd K v (.list ds)) : ∃ a vs, v = .ref a ∧ s.heap.IsList a vs.toArray ∧ RdAll K vs ds := by
  cases h with
  | @list a o vs n _ k hc hd r => exact ⟨a, vs.toList, rfl, ⟨o, S.kept _ _ k, hc, n, by simp [hd]⟩, r⟩
theorem St.rdTuple {v : Value} {ds : List PyData} (S : St c g K own s) (h : Rd K v (.tuple ds)) : ∃ a vs, v = .ref a ∧ s.heap.IsTuple a vs.toArray ∧ RdAll K vs ds := by
  cases h with
  | @tuple a o vs n _ k hc hd r => exact ⟨a, vs.toList, rfl, ⟨o, S.kept _ _ k, hc, n, by simp [hd]⟩, r⟩

-- subscripts
theorem sub_list {value slice : Expr} {a : Addr} {vs : List Value} {k : Int} {u : Tok} {i : Nat} {x : Value} {Q : Value → Shared → Prop} (hl : s.heap.IsList a vs.toArray) (hk : k = i) (hx : vs[i]? = some x) (hi : i < 2 ^ 62) (h : Q x s)
    (hs : subscripted slice false (.ref a) (.int k u) = operate [.ref a, .int k u] (getItem (.ref a) (.int k u)) := by with_unfolding_all rfl) :
    wpAny (model prog w) A (subscriptTail value slice (.ref a) (.int k u)) Q E s :=
  tail_any hl.typeIs slot_list_getitem.lookup (wpAny_getItem_list hl (by exact om68 hk) (by exact om67 hk hi) (by subst hk; simpa using hx) h) hs
theorem sub_rd {value slice : Expr} {v : Value} {ds : List PyData} {k : Int} {u : Tok} {i : Nat} {d : PyData} {Q : Value → Shared → Prop} (S : St c g K own s) (hr : Rd K v (.list ds)) (hk : k = i) (hx : ds[i]? = some d) (hi : i < 2 ^ 62)
    (h : ∀ x, Rd K x d → Q x s) (hs : ∀ a, subscripted slice false (.ref a) (.int k u) = operate [.ref a, .int k u] (getItem (.ref a) (.int k u)) := by intro _; with_unfolding_all rfl) :
    wpAny (model prog w) A (subscriptTail value slice v (.int k u)) Q E s := by
  obtain ⟨a, vs, rfl, hl, r⟩ := S.rdList hr
  obtain ⟨x, hx', rx⟩ := r.get hx
  exact sub_list hl hk hx' hi (h x rx) (hs a)
theorem sub_tup {value slice : Expr} {v : Value} {ds : List PyData} {k : Int} {u : Tok} {i : Nat} {d : PyData} {Q : Value → Shared → Prop} (S : St c g K own s) (hr : Rd K v (.tuple ds)) (hk : k = i) (hx : ds[i]? = some d) (hi : i < 2 ^ 62)
    (h : ∀ x, Rd K x d → Q x s) (hs : ∀ a, subscripted slice false (.ref a) (.int k u) = operate [.ref a, .int k u] (getItem (.ref a) (.int k u)) := by intro _; with_unfolding_all rfl)
    (hg : ∀ a r, letTemporaryGo value (.ref a) r = pure () := by intro _ _; with_unfolding_all rfl) :
    wpAny (model prog w) A (subscriptTail value slice v (.int k u)) Q E s := by
  obtain ⟨a, vs, rfl, ho, r⟩ := S.rdTuple hr
  obtain ⟨x, hx', rx⟩ := r.get hx
  have hlt : i < vs.length := (List.getElem?_eq_some_iff.mp hx').1
  refine item_tuple ho (by exact om71 hk) (by exact om67 hk hi) (j := i) ?_ (by simpa using hx') (h x rx) (hs a) (hg a)
  subst hk
  unfold seqIndex?
  have h1 : ¬ ((i : Int) < 0) := by exact om70
  have h2 : (0 ≤ (i : Int)) := by exact om1
  have h3 : ((i : Int) < vs.toArray.size) := by simp; exact om69 hlt
  simp only [h1, if_false, h2, decide_true, h3, Bool.true_and, if_true, Int.toNat_natCast]

theorem St.drop2 {p q r : Addr × Pr} (S : St c g K (p :: q :: r :: rest) s) : St c g K (p :: q :: rest) s :=
  S.sub (fun x hx => by simp only [List.mem_cons] at hx ⊢; rcases hx with h | h | h <;> simp [h])
    (by have := S.nd; simp only [List.map_cons, List.nodup_cons, List.mem_cons, not_or] at this ⊢; exact ⟨⟨this.1.1, this.1.2.2⟩, this.2.1.2, this.2.2.2⟩)
theorem RdAll.getI {l : List Int} {vs : List Value} {i : Nat} (h : RdAll K vs (l.map PyData.int)) (hi : i < l.length) : ∃ t, vs[i]? = some (.int (l.getD i 0) t) := by
  obtain ⟨v, hv, r⟩ := h.get (i := i) (d := .int (l.getD i 0)) (by simp [List.getElem?_map, List.getD_eq_getElem?_getD, hi])
  obtain ⟨t, rfl⟩ := r.intE
  exact ⟨t, hv⟩

theorem RdAll.getN {l : List Nat} {vs : List Value} {i : Nat} (h : RdAll K vs (l.map fun x : Nat => PyData.int (x : Int))) (hi : i < l.length) : ∃ t, vs[i]? = some (.int ((l.getD i 0 : Nat) : Int) t) := by
  obtain ⟨v, hv, r⟩ := h.get (i := i) (d := .int ((l.getD i 0 : Nat) : Int)) (by simp [List.getElem?_map, List.getD_eq_getElem?_getD, hi])
  obtain ⟨t, rfl⟩ := r.intE
  exact ⟨t, hv⟩
theorem rd_rep {v : Value} {d : PyData} (h : Rd K v d) : ∀ N : Nat, RdAll K (List.replicate N v) (List.replicate N d)
  | 0 => .nil
  | N + 1 => .cons h (rd_rep h N)

-- stores and appends
theorem set_ls {a : Addr} {vs : List Value} {k : Int} {u : Tok} {i : Nat} {x : Value} {own' : Own} {Q : Unit → Shared → Prop} (S : St c g K own s) (hu : OwnUp own a (LpO vs) (LpO (vs.set i x)) own') (hk : k = i) (hi : i < vs.length) (hz : i < 2 ^ 62)
    (h : ∀ s', St c g K own' s' → Q () s') : wpAny (model prog w) A (setItem (.ref a) (.int k u) x) Q E s := by
  obtain ⟨o, ho, n, rfl⟩ := S.owned _ hu.mem
  refine ki_setAt ho (by exact om68 hk) (by exact om67 hk hz) (by simp; exact om66 hk hi) (h _ (S.turn _ hu (Heap.SameBut.update ..) ⟨_, Heap.get?_update_self _ ho rfl, n, ?_⟩))
  have : (vs.toArray.setIfInBounds k.toNat x) = (vs.set i x).toArray := by subst hk; simp
  show Obj.mapSeq (fun y => y.setIfInBounds k.toNat x) (PySem.W.listOf vs.toArray n) = _
  simp only [Obj.mapSeq, this]
  simp
theorem c_append {a : Addr} {vs : List Value} {x : Value} {own' : Own} {Q : Value → Shared → Prop} (S : St c g K own s) (hu : OwnUp own a (LpO vs) (LpO (vs ++ [x])) own') (hz : vs.length ≤ sizeLine)
    (h : ∀ s', St c g K own' s' → Q .none s') : wpAny (model prog w) A (call (.builtin "list.append") [.ref a, x]) Q E s :=
  wpAny_list_append_plain (lp_plain (S.owned _ hu.mem)) (fun h' hp hs => h _ (S.turn _ hu hs (plain_lp (by simpa using hp)))) (by simpa using hz)
theorem m_append {a : Addr} {vs : List Value} {pl : Sem Bool} {Q : Value × List Value → Shared → Prop} (S : St c g K own s) (hm : (a, LpO vs) ∈ own) (h : Q (.builtin "list.append", [.ref a]) s) :
    wpAny (model prog w) A (getMethod (.ref a) "append" pl) Q E s := by
  obtain ⟨o, ho, n, rfl⟩ := S.owned _ hm
  exact Calls.getMethod_list_append ho rfl rfl h
theorem c_len {a : Addr} {vs : List Value} {Q : Value → Shared → Prop} (S : St c g K own s) (hl : s.heap.IsList a vs.toArray) (hz : vs.length < 2 ^ 62) (h : ∀ t s', St c g K own s' → Q (.int vs.length t) s') :
    wpAny (model prog w) A (call (.builtin "len") [.ref a]) Q E s := by
  refine Calls.call_len_list hl (by simp; exact om65 hz) ?_
  have := h (s.toks + 1) _ (S.toks (s.toks + 1 + 1))
  simpa using this
theorem c_len_rd {v : Value} {ds : List PyData} {Q : Value → Shared → Prop} (S : St c g K own s) (hr : Rd K v (.list ds)) (hz : ds.length < 2 ^ 62) (h : ∀ t s', St c g K own s' → Q (.int ds.length t) s') :
    wpAny (model prog w) A (call (.builtin "len") [v]) Q E s := by
  obtain ⟨a, vs, rfl, hl, r⟩ := S.rdList hr
  have e := r.length
  rw [← e] at h hz
  exact c_len S hl hz h

-- + and * of plain lists
theorem b_cat {p : Addr × Pr} {a b : Addr} {vs us : List Value} {Q : Value → Shared → Prop} (S : St c g K (p :: rest) s) (ha : ∃ o, s.heap.get? a = some o ∧ LpO vs o) (hb : ∃ o, s.heap.get? b = some o ∧ LpO us o) (hz : vs.length + us.length ≤ sizeLine)
    (h : ∀ d s', St c g K (p :: (d, LpO (vs ++ us)) :: rest) s' → Q (.ref d) s') : wpAny (model prog w) A (binaryOp .Add (.ref a) (.ref b)) Q E s := by
  obtain ⟨o, ho, n, rfl⟩ := ha
  obtain ⟨o', ho', n', rfl⟩ := hb
  refine P.add_list ho ho' (h _ _ (S.alloc { cls := .type "list", data := .seq (vs.toArray ++ us.toArray) } ⟨0, by simp⟩ rfl _)) (by simpa using hz)
/-- the library's rules over a frame and a ledger: every object of the heap is in the ledger -/
theorem St.fn (S : St c g K ((L, NsO mv) :: rest) s) (hL : c.h0.objs.size ≤ L) : ∃ news, Fr {} L s.heap (mv) ∧ News {} L s.heap news ∧
    ∀ h' extra tk, Fr {} L h' (mv) → News {} L h' (extra ++ news) → St c g K ((L, NsO mv) :: rest) { s with heap := h', toks := tk } ∧ ∀ p ∈ extra, h'.get? p.1 = some p.2 := by
  let news : List (Addr × Obj) := (List.range s.heap.objs.size).filterMap fun a => if a = L then none else (s.heap.get? a).map fun o => (a, o)
  have mem : ∀ a o, a ≠ L → s.heap.get? a = some o → (a, o) ∈ news := by
    intro a o ha e
    refine List.mem_filterMap.mpr ⟨a, List.mem_range.mpr (Heap.lt_size e), ?_⟩
    rw [if_neg ha, e]; rfl
  have mem' : ∀ p ∈ news, p.1 ≠ L ∧ s.heap.get? p.1 = some p.2 := by
    intro p hp
    obtain ⟨a, _, e⟩ := List.mem_filterMap.mp hp
    split at e
    · cases e
    · rename_i ha
      cases e' : s.heap.get? a with
      | none => rw [e'] at e; cases e
      | some o => rw [e'] at e; cases e; exact ⟨ha, e'⟩
  have none_ : ∀ b : Addr, ({} : Heap).get? b = none := fun b => by simp [Heap.get?]
  refine ⟨news, ⟨S.ns, (fun b o e => by rw [none_] at e; cases e), Nat.zero_le _⟩, fun p hp => ⟨(mem' p hp).2, (mem' p hp).1, none_ _⟩, fun h' extra tk F N => ⟨?_, fun p hp => (N p (List.mem_append_left _ hp)).1⟩⟩
  have keep : ∀ b o, b ≠ L → s.heap.get? b = some o → h'.get? b = some o := fun b o hb e => (N _ (List.mem_append_right _ (mem b o hb e))).1
  have nd := S.nd
  simp only [List.map_cons, List.nodup_cons] at nd
  obtain ⟨oL, eL, pL⟩ := of_ns F.ns
  refine ⟨S.le, S.new, fun b o h => keep _ _ (S.sep b o h _ List.mem_cons_self) (S.kept b o h), fun b o h hb => keep _ _ ?_ (S.base b o h hb), Nat.le_of_lt (Nat.lt_of_le_of_lt hL (Heap.lt_size eL)), fun q hq => ?_, S.ownNew, S.sep, S.nd, S.gens, S.os⟩
  · rintro rfl
    exact absurd (Heap.lt_size h) (Nat.not_lt.mpr hL)
  · rcases List.mem_cons.mp hq with rfl | hq'
    · exact ⟨oL, eL, pL⟩
    · obtain ⟨o, e, x⟩ := S.owned q hq
      exact ⟨o, keep _ _ (fun h => nd.1 (by rw [← h]; exact List.mem_map_of_mem (f := (·.1)) hq')) e, x⟩

theorem rep_one {v : Value} (n : Nat) : (List.foldl (fun x1 x2 => x1 ++ x2) (#[] : Array Value) (List.replicate n #[v])).toList = List.replicate n v := by
  have : ∀ (n : Nat) (acc : Array Value), (List.foldl (fun x1 x2 => x1 ++ x2) acc (List.replicate n #[v])).toList = acc.toList ++ List.replicate n v := by
    intro n
    induction n with
    | zero => intro acc; simp
    | succ n ih => intro acc; rw [List.replicate_succ, List.foldl_cons, ih, List.replicate_succ]; simp
  simpa using this n #[]

theorem b_rep {a : Addr} {v : Value} {n : Int} {u : Tok} {Q : Value → Shared → Prop} (S : St c g K ((L, NsO mv) :: rest) s) (hL : c.h0.objs.size ≤ L) (ha : (a, LpO [v]) ∈ (L, NsO mv) :: rest) (h0 : 0 ≤ n) (hz : n ≤ 2 ^ 24)
    (h : ∀ d s', St c g K ((L, NsO mv) :: (d, LpO (List.replicate n.toNat v)) :: rest) s' → Q (.ref d) s') : wpAny (model prog w) A (binaryOp .Mult (.ref a) (.int n u)) Q E s := by
  obtain ⟨o, ho, k, rfl⟩ := S.owned _ ha
  obtain ⟨news, F, N, back⟩ := S.fn hL
  refine mul_list F N ho (by exact om64 h0) (by exact om63 hz) (by simp; exact om62 hz) fun h' F' N' => ?_
  obtain ⟨S', hx⟩ := back h' [_] s.toks F' N'
  refine h _ _ (S'.addOwn ⟨_, hx _ List.mem_cons_self, 0, ?_⟩ S.size (fun q hq => Nat.ne_of_gt (S.lt hq)) fun b o' hk => Nat.ne_of_lt (S.Klt hk)).swap
  have e : (List.foldl (fun x1 x2 => x1 ++ x2) (#[] : Array Value) (List.replicate n.toNat #[v])) = (List.replicate n.toNat v).toArray := Array.ext' (by rw [rep_one])
  show ({ cls := .type "list", data := .seq (List.foldl (fun x1 x2 => x1 ++ x2) #[] (List.replicate (if (#[v] : Array Value).isEmpty = true then 0 else n.toNat) #[v])) } : Obj) = _
  rw [if_neg (by simp), e]

-- ranges
theorem c_range {n : Int} {t : Tok} {Q : Value → Shared → Prop} (S : St c g K own s) (h : ∀ r s' K', Le K K' → St c g K' own s' → Rng K' r 0 n → Q (.ref r) s') :
    wpAny (model prog w) A (call (.type "range") [.int n t]) Q E s :=
  call_range_1 (h _ _ _ (le_add _ _ _) (S.allocK _ rfl _) ⟨_, _, _, .inr ⟨rfl, rfl⟩⟩)

-- iterators
theorem it_range {p : Addr × Pr} {r : Addr} {a n : Int} {Q : Value → Shared → Prop} (S : St c g K (p :: rest) s) (hA : A.handled = none) (hr : Rng K r a n) (ha : 0 ≤ a) (hn : n < 2 ^ 62) (han : a ≤ n)
    (h : ∀ I s', St c g K (p :: (I, fun _ => True) :: rest) s' → Iter prog w A c K I (n - a).toNat (fun i v => ∃ t, v = .int (a + i) t) s'.heap → Q (.ref I) s') :
    wpAny (model prog w) A (pyIter (.ref r)) Q E s := by
  obtain ⟨t, u, v, hk⟩ := hr
  have hsz : Builtin.Range.rangeSize a n 1 = ((n - a).toNat : Int) := by
    rw [rangeSize_one]
    split <;> omega
  refine wpAny_pyIter_range (S.kept _ _ hk) (small_one (by exact om61 ha) (by exact om60 hn han) (by exact om59 ha han) (by exact om58 hn)) (h _ _ (S.alloc _ trivial rfl _) ?_)
  refine ⟨[s.heap.objs.size], fun i h => IsRangeIter h s.heap.objs.size (a + ↑i * 1) (↑(n - a).toNat - ↑i) 1, ?_, ?_, fun i h' x => ⟨_, "range_iterator", x, rfl, by decide⟩, fun b hb hne => absurd (List.mem_singleton.mp hb) hne, S.size⟩
  · have W := Walks.range (prog := prog) (w := w) hA s.heap.objs.size a 1 (n - a).toNat
    simpa using W
  · show Heap.get? _ _ = _
    rw [Heap.get?_push_size _ rfl, hsz]
    simp
theorem it_rd {p : Addr × Pr} {v : Value} {ds : List PyData} {Q : Value → Shared → Prop} (S : St c g K (p :: rest) s) (hA : A.handled = none) (hr : Rd K v (.list ds))
    (h : ∀ I s', St c g K (p :: (I, fun _ => True) :: rest) s' → Iter prog w A c K I ds.length (fun i v => ∃ d, ds[i]? = some d ∧ Rd K v d) s'.heap → Q (.ref I) s') :
    wpAny (model prog w) A (pyIter v) Q E s := by
  cases hr with
  | @list a o vs n _ k hc hd r =>
    have hl : s.heap.IsList a vs := ⟨o, S.kept _ _ k, hc, n, hd⟩
    have hne : a ≠ s.heap.objs.size := Nat.ne_of_lt (S.Klt k)
    refine wpAny_pyIter_list hl (h _ _ (S.alloc _ trivial rfl _) ?_)
    have W := Walks.list (prog := prog) (w := w) hA s.heap.objs.size a hne vs
    have hlen : vs.size = ds.length := by have := r.length; simpa using this
    rw [hlen] at W
    refine ⟨[s.heap.objs.size, a], fun i h => h.IsListIter s.heap.objs.size a i ∧ h.IsList a vs, ⟨W.sub, W.frame, fun i s Q E hi st hQ => W.item i s Q E hi st fun v h' tk hP => hQ v h' tk ?_, W.done, W.self⟩, ⟨⟨_, Heap.get?_push_size _ rfl, rfl, rfl⟩, hl.at fun o e => Heap.get?_push_of_some _ e⟩, ?_, ?_, S.size⟩
    · have hlt : i < ds.length := hi
      obtain ⟨x, hx, rx⟩ := r.get (i := i) (d := ds[i]) (by simp [hlt])
      refine ⟨ds[i], by simp [hlt], ?_⟩
      have e : vs[i]? = some x := by simpa using hx
      rw [e] at hP
      rw [← Option.some.inj hP]; exact rx
    · rintro i h' ⟨⟨o, ho, hc, _⟩, _⟩
      exact ⟨o, "list_iterator", ho, hc, by decide⟩
    · intro b hb hne
      rcases List.mem_cons.mp hb with e | hb
      · exact absurd e hne
      · rw [List.mem_singleton.mp hb]; exact ⟨o, k⟩
theorem it_tup {p : Addr × Pr} {v : Value} {ds : List PyData} {Q : Value → Shared → Prop} (S : St c g K (p :: rest) s) (hA : A.handled = none) (hr : Rd K v (.tuple ds))
    (h : ∀ I s', St c g K (p :: (I, fun _ => True) :: rest) s' → Iter prog w A c K I ds.length (fun i v => ∃ d, ds[i]? = some d ∧ Rd K v d) s'.heap → Q (.ref I) s') :
    wpAny (model prog w) A (pyIter v) Q E s := by
  cases hr with
  | @tuple a o vs n _ k hc hd r =>
    have hl : s.heap.IsTuple a vs := ⟨o, S.kept _ _ k, hc, n, hd⟩
    have hne : a ≠ s.heap.objs.size := Nat.ne_of_lt (S.Klt k)
    refine wpAny_pyIter_tuple hl (h _ _ (S.alloc _ trivial rfl _) ?_)
    have W := Walks.tuple (prog := prog) (w := w) hA s.heap.objs.size a hne vs
    have hlen : vs.size = ds.length := by have := r.length; simpa using this
    rw [hlen] at W
    refine ⟨[s.heap.objs.size, a], fun i h => h.IsTupleIter s.heap.objs.size a i ∧ h.IsTuple a vs, ⟨W.sub, W.frame, fun i s Q E hi st hQ => W.item i s Q E hi st fun v h' tk hP => hQ v h' tk ?_, W.done, W.self⟩, ⟨⟨_, Heap.get?_push_size _ rfl, rfl, rfl⟩, ⟨o, Heap.get?_push_of_some _ (S.kept _ _ k), hc, n, hd⟩⟩, ?_, ?_, S.size⟩
    · have hlt : i < ds.length := hi
      obtain ⟨x, hx, rx⟩ := r.get (i := i) (d := ds[i]) (by simp [hlt])
      refine ⟨ds[i], by simp [hlt], ?_⟩
      have e : vs[i]? = some x := by simpa using hx
      rw [e] at hP
      rw [← Option.some.inj hP]; exact rx
    · rintro i h' ⟨⟨o, ho, hc, _⟩, _⟩
      exact ⟨o, "tuple_iterator", ho, hc, by decide⟩
    · intro b hb hne
      rcases List.mem_cons.mp hb with e | hb
      · exact absurd e hne
      · rw [List.mem_singleton.mp hb]; exact ⟨o, k⟩
end
end

section
/-- the env knows the cell c by the name x -/
structure CelF (env : Env) (x : Str) (c : Addr) : Prop where
  kind : env.kindOf x = some .cell ∨ env.kindOf x = some .free
  look : env.cells.lookup x = some c
  dbg : (x == ("__debug__" : Str)) = false
  cd : (x == ("__classdict__" : Str)) = false

section
variable {prog : Program} {w : World} {A : Around} {E : Value → Shared → Prop} {c : Cx} {g : Gs} {K : KP} {own rest : Own} {s : Shared} {env : Env} {L : Addr} {names gn : List Str} {vals : List (Option Value)} {GL BL : List (Str × Value)}

theorem ev_cell {x : Str} {pos : Pos} {a : Addr} {v : Value} {Q : Value → Shared → Prop} (S : St c g K own s) (he : EnvF env L names gn) (hc : CelF env x a) (hm : (a, CellO (some v)) ∈ own) (h : Q v s) :
    wpAny (model prog w) A (eval (.Name x pos) env) Q E s := by
  obtain ⟨o, ho, hd⟩ := S.owned _ hm
  refine wpAny_Name ?_ hc.dbg
  rcases hc.kind with hk | hk
  · exact wpAny_loadName_cell he.kind hk hc.look ⟨o, ho, hd⟩ h
  · exact wpAny_loadName_free he.kind hk hc.look ⟨o, ho, hd⟩ h hc.cd
theorem st_cell {x : Str} {a : Addr} {v : Value} {u : Option Value} {own' : Own} {Q : Unit → Shared → Prop} (S : St c g K own s) (he : EnvF env L names gn) (hc : CelF env x a) (hx : env.kindOf x = some .cell) (hu : OwnUp own a (CellO u) (CellO (some v)) own')
    (h : ∀ s', St c g K own' s' → Q () s') : wpAny (model prog w) A (storeName env x v) Q E s := by
  obtain ⟨o, ho, hd⟩ := S.owned _ hu.mem
  refine wpAny_storeName_cell he.kind hx hc.look ⟨o, ho, hd⟩ fun h' hc' hs => h _ ?_
  obtain ⟨o', ho', hd'⟩ := hc'
  exact S.turn s.toks hu hs ⟨o', ho', hd'⟩

def closOf (cells : List (Str × Addr)) : List (Str × NameKind) → List (Str × Addr) → List (Str × Addr)
  | [], acc => acc
  | (n, k) :: r, acc => if k == .free then closOf cells r ((n, (cells.lookup n).getD 0) :: acc) else closOf cells r acc
theorem closureFor_of {scope : Scope} (h : ∀ x ∈ scope.names, x.2 = .free → ∃ a, env.cells.lookup x.1 = some a) : closureFor scope env = pure (closOf env.cells scope.names []) := by
  unfold closureFor
  have key : ∀ (l : List (Str × NameKind)) (acc : List (Str × Addr)), (∀ x ∈ l, x.2 = .free → ∃ a, env.cells.lookup x.1 = some a) →
      (forIn l acc (fun (x : Str × NameKind) (cs : List (Str × Addr)) => match x with
        | (name, kind) => if (kind == NameKind.free) = true then do let a ← cellOf env name; pure (ForInStep.yield ((name, a) :: cs)) else pure (ForInStep.yield cs)) : Sem (List (Str × Addr))) = pure (closOf env.cells l acc) := by
    intro l
    induction l with
    | nil => intro acc _; rw [List.forIn_nil]; rfl
    | cons x l ih =>
      intro acc hl
      obtain ⟨n, k⟩ := x
      rw [List.forIn_cons]
      by_cases hk : (k == NameKind.free) = true
      · obtain ⟨a, ha⟩ := hl (n, k) List.mem_cons_self (by simpa using hk)
        have hc : cellOf env n = pure a := by unfold cellOf; rw [ha]
        simp only [hk, if_true, hc, closOf]
        have := ih ((n, a) :: acc) fun y hy => hl y (List.mem_cons_of_mem _ hy)
        have e : (env.cells.lookup n).getD 0 = a := by rw [ha]; rfl
        rw [e]
        exact this
      · simp only [Bool.not_eq_true] at hk
        simp only [hk, Bool.false_eq_true, if_false, closOf]
        exact ih acc fun y hy => hl y (List.mem_cons_of_mem _ hy)
  have := key scope.names [] h
  simpa using this

theorem lookup_relabel_free {env : Env} : ∀ {names : List (Str × NameKind)} {x : Str}, names.lookup x = some .free →
    (names.map fun (n, k) => if (k == NameKind.free && env.scope.kind == .function && env.kindOf n == some .cell) then (n, NameKind.cell) else (n, k)).lookup x = some .cell ∨
    (names.map fun (n, k) => if (k == NameKind.free && env.scope.kind == .function && env.kindOf n == some .cell) then (n, NameKind.cell) else (n, k)).lookup x = some .free
  | [], _, h => by simp at h
  | (n, k) :: r, x, h => by
    have ih := @lookup_relabel_free env r x
    show List.lookup x ((if (k == NameKind.free && env.scope.kind == .function && env.kindOf n == some .cell) = true then (n, NameKind.cell) else (n, k)) :: _) = _ ∨ List.lookup x ((if (k == NameKind.free && env.scope.kind == .function && env.kindOf n == some .cell) = true then (n, NameKind.cell) else (n, k)) :: _) = _
    cases hx : x == n with
    | true =>
      simp only [List.lookup_cons, hx] at h
      cases h
      by_cases hc : (NameKind.free == NameKind.free && env.scope.kind == .function && env.kindOf n == some .cell) = true
      · rw [if_pos hc]; left; simp [List.lookup_cons, hx]
      · rw [if_neg hc]; right; simp [List.lookup_cons, hx]
    | false =>
      simp only [List.lookup_cons, hx] at h
      by_cases hc : (k == NameKind.free && env.scope.kind == .function && env.kindOf n == some .cell) = true
      · rw [if_pos hc]; simp only [List.lookup_cons, hx]; exact ih h
      · rw [if_neg hc]; simp only [List.lookup_cons, hx]; exact ih h
theorem comp_cel {scope : Scope} {x : Str} {a : Addr} {cl : List (Str × Addr)} (hc : CelF env x a) (hx : scope.names.lookup x = some .free) (hcl : cl.lookup x = some a) (C : Addr) : CelF (compEnvC scope cl C env) x a :=
  ⟨lookup_relabel_free hx, hcl, hc.dbg, hc.cd⟩

theorem EnvF.cel {scope : Scope} {x : Str} {a C : Addr} {cl : List (Str × Addr)} {ns gs : List Str} (_h : EnvF (compEnvC scope cl C env) C ns gs) (hc : CelF env x a) (hx : scope.names.lookup x = some .free) (hcl : cl.lookup x = some a) : CelF (compEnvC scope cl C env) x a :=
  comp_cel hc hx hcl C

structure ScopeOkC (S : Scope) (names gn : List Str) : Prop where
  kind : S.kind = .function
  nd : names.Nodup
  all : ∀ x ∈ names, S.names.lookup x = some .local ∧ (x == ("__debug__" : Str)) = false
  gall : ∀ x ∈ gn, S.names.lookup x = some .globalImplicit ∧ (x == ("__debug__" : Str)) = false
  plain : S.isCoroutine = false ∧ S.isGenerator = false

theorem bindL_local {k : Str → Option NameKind} : ∀ {bs : List (Str × Value)} {m : Mm}, (∀ x ∈ bs, k x.1 = some .local) → ∀ y, bindL k bs m y = (bs.reverse.lookup y).or (m y)
  | [], m, _, y => by simp [bindL]
  | (n, v) :: r, m, h, y => by
    rw [bindL, if_pos (h (n, v) List.mem_cons_self), bindL_local fun x hx => h x (List.mem_cons_of_mem _ hx), List.reverse_cons, List.lookup_append]
    by_cases e : y = n
    · subst e; simp [Option.or_assoc]
    · have : (y == n) = false := beq_eq_false_iff_ne.mpr e
      simp [e, this, List.lookup_cons]
theorem bindC_local {k : Str → Option NameKind} : ∀ {bs : List (Str × Value)} {m : Mm}, (∀ x ∈ bs, k x.1 = some .local) → bindC k bs m = m
  | [], m, _ => rfl
  | (n, v) :: r, m, h => by rw [bindC, if_pos (h (n, v) List.mem_cons_self)]; exact bindC_local fun x hx => h x (List.mem_cons_of_mem _ hx)

/-- a call of a def that has cells of its own (no parameter among them) -/
theorem call_funC {a : Addr} {f : Fd} {args : List Value} {n : Nat} {ps ls : List Str} {Q : Value → Shared → Prop} (cf : Nat → List (Str × Addr))
    (hF : Fun K a f) (hG : GB K GL BL) (hK : ∀ b o, K b o → s.heap.get? b = some o) (hA : AOk A (n + 1)) (hS : ScopeOkC f.S names gn)
    (hn : names = ps ++ ls) (hv : vals = args.map some ++ ls.map fun _ => none) (hl : ps.length = args.length)
    (hb : ∀ doc pm an cd ct, bindArgs (fnOf f.name f.qual f.P f.B f.S .none .none doc pm an cd ct) ⟨args, []⟩ = pure (ps.zip args))
    (hcf : ∀ n, cellsFrom n f.S.names [] = cf n) (hlk : ∀ n p, p ∈ cf n → (cf n).lookup p.1 = some p.2)
    (h : ∀ L env s₁ A' (N : Flow → Shared → Prop), s.heap.objs.size ≤ L → AOk A' n → EnvF env L names gn → env.cells = cf (L + 1) → env.scope = f.S → St ⟨s.heap, K, [], s.os⟩ s.gens K ((L, FrO names vals) :: (cf (L + 1)).map fun p => (p.2, CellO none)) s₁ →
      (∀ fl s', Q (match fl with | .ret v => v | _ => .none) s' → N fl s') → wpAny (model prog w) A' (execs f.B env) N (fun _ _ => False) s₁) :
    wpAny (model prog w) A (call (.ref a) args) Q E s := by
  obtain ⟨doc, pm, an, cd, ct, d, sl, co, vs, t, h1, h2, h3, h4⟩ := hF
  obtain ⟨og, ob, ol, mg, mb, ml, _, _, _, _, hol, hml, hlim, _⟩ := hG
  have lim : s.heap.NoLimit := ⟨ml, ns_of ⟨_, hK _ _ hol, hml⟩, hlim⟩
  have hnd : ps.Nodup := by have := hS.nd; rw [hn] at this; exact (List.nodup_append.mp this).1
  refine wpAny_call (codeAny_call_function hA.room (hK _ _ h1) rfl hS.plain.1 hS.plain.2 rfl ⟨cd, co, vs, t, rfl, hK _ _ h2, h3, h4⟩ ?_)
  rw [hb]
  have hbl : ∀ x ∈ ps.zip args, f.S.names.lookup x.1 = some .local := by
    intro x hx
    have : x.1 ∈ ps := by
      obtain ⟨i, hi, e⟩ := List.getElem_of_mem hx
      rw [← e, List.getElem_zip]; exact List.getElem_mem _
    exact (hS.all x.1 (by rw [hn]; exact List.mem_append_left _ this)).1
  refine wpAny_pure (wpAny_newFunctionEnv_cells hS.kind (fun x hx => .inl (hbl x hx)) (fun env he s' x => ?_))
  have hkL : ∀ x ∈ ps.zip args, env.kindOf x.1 = some .local := fun x hx => by rw [he]; exact hbl x hx
  have hcells : env.cells = cf (s.heap.objs.size + 1) := by rw [he]; exact hcf _
  have hloc : env.locals = s.heap.objs.size := by rw [he]; rfl
  rw [bindC_local hkL] at x
  have S1 : St ⟨s.heap, K, [], s.os⟩ s.gens K ((s.heap.objs.size, FrO names vals) :: (cf (s.heap.objs.size + 1)).map fun p => (p.2, CellO none)) s' := by
    have hns : (fun y => bindL env.kindOf (ps.zip args) (fun _ => none) y) = vm names vals := by
      funext y
      rw [bindL_local hkL, Option.or_none, hn, hv]; exact lookup_vm ls hnd hl y
    have hN := x.toInCall.ns
    rw [hloc] at hN
    have hN' : s'.heap.Ns s.heap.objs.size (vm names vals) := by rw [← hns]; exact hN
    obtain ⟨h₁, tk, hsame⟩ := x.toInCall.same
    have keep := x.toInCall.keep
    have above : ∀ p ∈ cf (s.heap.objs.size + 1), s.heap.objs.size < p.2 := fun p hp => by
      have := x.above p.1 p.2 (by rw [hcells]; exact hp)
      rwa [hloc] at this
    refine ⟨fun _ _ h => h, fun _ _ h => .inl h, fun b o h => keep _ _ (hK _ _ h), fun b o h _ => keep _ _ h, ?_, fun p hp => ?_, fun p hp => ?_, fun b o h p hp => ?_, ?_, by rw [hsame], by rw [hsame]⟩
    · obtain ⟨o, e, _⟩ := of_ns hN'
      exact Nat.le_of_lt (Heap.lt_size e)
    · rcases List.mem_cons.mp hp with rfl | hp
      · exact of_ns hN'
      · obtain ⟨q, hq, rfl⟩ := List.mem_map.mp hp
        obtain ⟨o, e, d⟩ := x.cell q.1 q.2 (by rw [hcells]; exact hlk _ _ hq)
        exact ⟨o, e, d⟩
    · rcases List.mem_cons.mp hp with rfl | hp
      · exact .inr (Nat.le_refl _)
      · obtain ⟨q, hq, rfl⟩ := List.mem_map.mp hp
        exact .inr (Nat.le_of_lt (above q hq))
    · have hlt := Heap.lt_size (hK b o h)
      rcases List.mem_cons.mp hp with rfl | hp
      · exact Nat.ne_of_lt hlt
      · obtain ⟨q, hq, rfl⟩ := List.mem_map.mp hp
        exact Nat.ne_of_lt (Nat.lt_trans hlt (above q hq))
    · have ap := x.apart
      rw [hcells] at ap
      rw [List.map_cons, List.nodup_cons, List.map_map]
      refine ⟨fun hm => ?_, ?_⟩
      · obtain ⟨q, hq, e⟩ := List.mem_map.mp hm
        exact absurd (above q hq) (by rw [show q.2 = s.heap.objs.size from e]; exact Nat.lt_irrefl _)
      · exact List.pairwise_map.mpr ap
  refine ⟨lim.keeps x.toInCall.keep, codeAny_func ?_⟩
  have hE : EnvF env s.heap.objs.size names gn := by
    rw [he]
    exact ⟨hS.kind, rfl, rfl, rfl, hS.nd, hS.all, hS.gall⟩
  exact wpAny_mono (h _ env _ _ _ (Nat.le_refl _) (hA.deeper _) hE hcells (by rw [he]; rfl) S1 fun _ _ q => q) (fun _ _ x => x) fun _ _ x => x.elim
end
end

section
section
variable {prog : Program} {w : World} {A : Around} {E : Value → Shared → Prop} {c : Cx} {g : Gs} {K : KP} {own rest : Own} {s : Shared} {env : Env} {L : Addr} {names gn : List Str} {vals : List (Option Value)} {mv : Mm} {GL BL : List (Str × Value)}

/-- every object stands -/
theorem St.keep {p : Addr × Pr} (S : St c g K (p :: rest) s) (hz : c.h0.objs.size ≤ p.1) {h' : Heap} (tk : Nat) (hk : ∀ b o, s.heap.get? b = some o → h'.get? b = some o) : St c g K (p :: rest) { s with heap := h', toks := tk } := by
  refine ⟨S.le, S.new, fun b o h => hk _ _ (S.kept b o h), fun b o h hb => hk _ _ (S.base b o h hb), ?_, fun q hq => ?_, S.ownNew, S.sep, S.nd, S.gens, S.os⟩
  · obtain ⟨o, e, _⟩ := S.owned p List.mem_cons_self
    exact Nat.le_of_lt (Nat.lt_of_le_of_lt hz (Heap.lt_size (hk _ _ e)))
  · obtain ⟨o, e, x⟩ := S.owned q hq
    exact ⟨o, hk _ _ e, x⟩
theorem St.ext {p : Addr × Pr} (S : St c g K (p :: rest) s) (hz : c.h0.objs.size ≤ p.1) {h' : Heap} (tk : Nat) (hk : Heap.ExtBut s.heap.objs.size s.heap h') : St c g K (p :: rest) { s with heap := h', toks := tk } :=
  S.keep hz tk fun b o e => hk b o (Nat.ne_of_lt (Heap.lt_size e)) e

-- numbers
theorem b_pow {a n : Int} {t u : Tok} {Q : Value → Shared → Prop} (S : St c g K own s) (h0 : 0 ≤ n) (h1 : n ≤ 1000000) (ha : a.natAbs < 2 ^ 64) (h : ∀ t s', St c g K own s' → Q (.int (a ^ n.toNat) t) s') :
    wpAny (model prog w) A (binaryOp .Pow (.int a t) (.int n u)) Q E s := pow_int_small h0 h1 ha (h _ _ (S.toks _))
theorem u_neg {a : Int} {t : Tok} {Q : Value → Shared → Prop} (S : St c g K own s) (h : ∀ t s', St c g K own s' → Q (.int (-a) t) s') :
    wpAny (model prog w) A (unaryOp .USub (.int a t)) Q E s := neg_int (h _ _ (S.toks _))
theorem c_abs {a : Int} {t : Tok} {Q : Value → Shared → Prop} (S : St c g K own s) (h : ∀ t s', St c g K own s' → Q (.int (if a < 0 then -a else a) t) s') :
    wpAny (model prog w) A (call (.builtin "abs") [.int a t]) Q E s := call_abs_int fun u tk => h _ _ (S.toks _)
theorem c_max {p : Addr × Pr} {a b : Int} {t u : Tok} {Q : Value → Shared → Prop} (S : St c g K (p :: rest) s) (hz : c.h0.objs.size ≤ p.1) (hA : A.handled = none) (h : ∀ t s', St c g K (p :: rest) s' → Q (.int (max a b) t) s') :
    wpAny (model prog w) A (call (.builtin "max") [.int a t, .int b u]) Q E s := by
  refine max_two_ints hA fun h' tk hk => ?_
  have S' := S.keep hz tk hk
  by_cases hb : b > a
  · rw [if_pos hb]
    have := h u _ S'
    rwa [show max a b = b by exact om74 hb] at this
  · rw [if_neg hb]
    have := h t _ S'
    rwa [show max a b = a by exact om73 hb] at this
theorem c_divmod {a b : Int} {t u : Tok} {Q : Value → Shared → Prop} (S : St c g K own s) (hb : b ≠ 0) (hp : Builtin.divisionGoesByPylong a b = false)
    (h : ∀ d s' K', Le K K' → St c g K' own s' → Rd K' (.ref d) (.tuple [.int (a.fdiv b), .int (a.fmod b)]) → Q (.ref d) s') :
    wpAny (model prog w) A (call (.builtin "divmod") [.int a t, .int b u]) Q E s :=
  divmod_int hb (h _ _ _ (le_add _ _ _) (S.allocK _ rfl _) (.tuple (.inr ⟨rfl, rfl⟩) rfl rfl (.cons (.int _ _) (.cons (.int _ _) .nil)))) (.inl hp)

theorem RdAll.ints : ∀ {l : List Int} {vs : List Value}, RdAll K vs (l.map PyData.int) → IntsAre vs l
  | [], _, .nil => .nil
  | _ :: _, _, .cons h r => by
    obtain ⟨t, rfl⟩ := h.intE
    exact .cons _ t r.ints
theorem IntsAre.rd {K : KP} : ∀ {vs : List Value} {l : List Int}, IntsAre vs l → RdAll K vs (l.map PyData.int)
  | _, _, .nil => .nil
  | _, _, .cons n t h => .cons (.int n t) (IntsAre.rd h)

theorem c_sorted {a : Addr} {vs : List Value} {ns : List Int} {Q : Value → Shared → Prop} (S : St c g K ((L, NsO mv) :: rest) s) (hL : c.h0.objs.size ≤ L) (hl : s.heap.IsList a vs.toArray) (hi : IntsAre vs ns) (hz : vs.length < 64)
    (h : ∀ d s' vs' ns', IntsAre vs' ns' → ns'.Perm ns → ns'.Pairwise (· ≤ ·) → St c g K ((L, NsO mv) :: (d, LpO vs') :: rest) s' → Q (.ref d) s') :
    wpAny (model prog w) A (call (.builtin "sorted") [.ref a]) Q E s := by
  obtain ⟨news, F, N, back⟩ := S.fn hL
  refine sorted_N F N hl hi hz fun h' vs' ns' e F' N' hi' hp hs => ?_
  obtain ⟨S', hx⟩ := back h' [_] s.toks F' N'
  refine h _ _ vs' ns' hi' hp hs (S'.addOwn ⟨_, hx _ List.mem_cons_self, e, rfl⟩ ?_ (fun q hq => ?_) fun b o' hk => ?_).swap
  · have := S.size; show _ ≤ s.heap.objs.size + 1; exact om72 this
  · exact Nat.ne_of_gt (Nat.lt_succ_of_lt (S.lt hq))
  · exact Nat.ne_of_lt (Nat.lt_succ_of_lt (S.Klt hk))
theorem IntsAre.pairs : ∀ {vs : List Value} {ns : List Int}, IntsAre vs ns → ∃ xs : List (Int × Tok), vs = xs.map (fun p => Value.int p.1 p.2) ∧ ns = xs.map (·.1)
  | _, _, .nil => ⟨[], rfl, rfl⟩
  | _, _, .cons n t h => let ⟨xs, a, b⟩ := Mine.IntsAre.pairs h; ⟨(n, t) :: xs, by rw [a]; rfl, by rw [b]; rfl⟩
theorem c_sum {p : Addr × Pr} {a : Addr} {vs : List Value} {ns : List Int} {Q : Value → Shared → Prop} (S : St c g K (p :: rest) s) (hz : c.h0.objs.size ≤ p.1) (hA : A.handled = none) (hl : s.heap.IsList a vs.toArray) (hi : IntsAre vs ns)
    (h : ∀ t s', St c g K (p :: rest) s' → Q (.int ns.sum t) s') :
    wpAny (model prog w) A (call (.builtin "sum") [.ref a]) Q E s := by
  obtain ⟨xs, rfl, rfl⟩ := Mine.IntsAre.pairs hi
  have e : (xs.map (fun p => Value.int p.1 p.2)).toArray = intItems xs.toArray := by simp [intItems]
  rw [e] at hl
  refine sum_intListG hA hl fun h' tk t' hk => ?_
  have := h t' _ (S.keep hz tk hk)
  have e2 : preSum (numAt xs.toArray) xs.toArray.size = (xs.map (·.1)).sum := by
    rw [preSum_eq]; simp [List.take_of_length_le]
  rw [e2]; exact this

theorem as_cons {e : Expr} {x : Str} {px : Pos} {es : List Expr} {a : Value} {vs : List Value} {Q : Unit → Shared → Prop} (he : e = .Name x px) (h : wpAny (model prog w) A (storeName env x a) (fun _ s₁ => wpAny (model prog w) A (assignInOrder ((assignEach es env).map (·.2)) vs) Q E s₁) E s) :
    wpAny (model prog w) A (assignInOrder ((assignEach (e :: es) env).map (·.2)) (a :: vs)) Q E s := by
  subst he
  have e1 : (assignEach (.Name x px :: es) env).map (·.2) = assign (.Name x px) env :: (assignEach es env).map (·.2) := by with_unfolding_all rfl
  rw [e1]
  exact assignInOrder_cons (wpAny_assign_Name h)
theorem as_nil {vs : List Value} {Q : Unit → Shared → Prop} (h : Q () s) : wpAny (model prog w) A (assignInOrder ((assignEach [] env).map (·.2)) vs) Q E s := by
  have e1 : (assignEach [] env).map (·.2) = [] := by with_unfolding_all rfl
  rw [e1]
  exact assignInOrder_nil h
theorem as_names2 {x y : Str} {px py : Pos} {a b : Value} {Q : Unit → Shared → Prop} (h : wpAny (model prog w) A (storeName env x a) (fun _ s₁ => wpAny (model prog w) A (storeName env y b) Q E s₁) E s) :
    wpAny (model prog w) A (assignInOrder ((assignEach [.Name x px, .Name y py] env).map (·.2)) [a, b]) Q E s :=
  as_cons rfl (wpAny_mono h (fun _ _ h₁ => as_cons rfl (wpAny_mono h₁ (fun _ _ h₂ => as_nil h₂) fun _ _ e => e)) fun _ _ e => e)
theorem as_names3 {x y z : Str} {px py pz : Pos} {a b d : Value} {Q : Unit → Shared → Prop} (h : wpAny (model prog w) A (storeName env x a) (fun _ s₁ => wpAny (model prog w) A (storeName env y b) (fun _ s₂ => wpAny (model prog w) A (storeName env z d) Q E s₂) E s₁) E s) :
    wpAny (model prog w) A (assignInOrder ((assignEach [.Name x px, .Name y py, .Name z pz] env).map (·.2)) [a, b, d]) Q E s :=
  as_cons rfl (wpAny_mono h (fun _ _ h₁ => as_cons rfl (wpAny_mono h₁ (fun _ _ h₂ => as_cons rfl (wpAny_mono h₂ (fun _ _ h₃ => as_nil h₃) fun _ _ e => e)) fun _ _ e => e)) fun _ _ e => e)
theorem RdAll.consE {vs : List Value} {d : PyData} {ds : List PyData} (h : RdAll K vs (d :: ds)) : ∃ v us, vs = v :: us ∧ Rd K v d ∧ RdAll K us ds := by
  cases h with
  | cons a b => exact ⟨_, _, rfl, a, b⟩
theorem RdAll.nilE {vs : List Value} (h : RdAll K vs []) : vs = [] := by
  cases h; rfl
theorem as_tup2 {p : Addr × Pr} {x y : Str} {px py pos : Pos} {k : Nat} {v : Value} {d e : PyData} {Q : Unit → Shared → Prop} (S : St c g K (p :: rest) s) (hz : c.h0.objs.size ≤ p.1) (hA : A.handled = none) (hr : Rd K v (.tuple [d, e]))
    (h : ∀ a b s', St c g K (p :: rest) s' → Rd K a d → Rd K b e → wpAny (model prog w) A (storeName env x a) (fun _ s₁ => wpAny (model prog w) A (storeName env y b) Q E s₁) E s') :
    wpAny (model prog w) A (assign (.Tuple [.Name x px, .Name y py] k pos) env v) Q E s := by
  obtain ⟨a, vs, rfl, ht, r⟩ := S.rdTuple hr
  obtain ⟨va, vs, rfl, ra, r⟩ := r.consE
  obtain ⟨vb, vs, rfl, rb, r⟩ := r.consE
  rw [r.nilE] at ht
  refine wpAny_assign_Tuple hA ht ?_ ?_ fun h' hk => ?_
  · with_unfolding_all rfl
  · with_unfolding_all rfl
  · have S' := S.ext hz s.toks hk
    exact as_names2 (h _ _ _ S' ra rb)
theorem as_tup3 {p : Addr × Pr} {x y z : Str} {px py pz pos : Pos} {k : Nat} {v : Value} {d e f : PyData} {Q : Unit → Shared → Prop} (S : St c g K (p :: rest) s) (hz : c.h0.objs.size ≤ p.1) (hA : A.handled = none) (hr : Rd K v (.tuple [d, e, f]))
    (h : ∀ a b i s', St c g K (p :: rest) s' → Rd K a d → Rd K b e → Rd K i f → wpAny (model prog w) A (storeName env x a) (fun _ s₁ => wpAny (model prog w) A (storeName env y b) (fun _ s₂ => wpAny (model prog w) A (storeName env z i) Q E s₂) E s₁) E s') :
    wpAny (model prog w) A (assign (.Tuple [.Name x px, .Name y py, .Name z pz] k pos) env v) Q E s := by
  obtain ⟨a, vs, rfl, ht, r⟩ := S.rdTuple hr
  obtain ⟨va, vs, rfl, ra, r⟩ := r.consE
  obtain ⟨vb, vs, rfl, rb, r⟩ := r.consE
  obtain ⟨vd, vs, rfl, rd, r⟩ := r.consE
  rw [r.nilE] at ht
  refine wpAny_assign_Tuple hA ht ?_ ?_ fun h' hk => ?_
  · with_unfolding_all rfl
  · with_unfolding_all rfl
  · have S' := S.ext hz s.toks hk
    exact as_names3 (h _ _ _ _ S' ra rb rd)

-- slices
theorem ev_slice {value : Expr} {lo hi : Option Expr} {p pos : Pos} {Q : Value → Shared → Prop}
    (h : wpAny (model prog w) A (eval value env) (fun o s₁ => wpAny (model prog w) A (evalPart lo env) (fun l s₂ => wpAny (model prog w) A (evalPart hi env) (fun u s₃ =>
      wpAny (model prog w) A (subscriptTail value (.Slice lo hi none p) o (.ref s₃.heap.objs.size)) Q E { s₃ with heap := s₃.heap.push { cls := .type "slice", data := .fields #[l, u, .none] } }) E s₂) E s₁) E s) :
    wpAny (model prog w) A (eval (.Subscript value (.Slice lo hi none p) pos) env) Q E s := by
  refine Subscript_ (wpAny_mono h (fun o s₁ h₁ => wpAny_Slice (wpAny_mono h₁ (fun l s₂ h₂ => wpAny_mono h₂ (fun u s₃ h₃ => ?_) fun _ _ e => e) fun _ _ e => e)) fun _ _ e => e)
  rw [evalPart_none]
  exact wpAny_pure h₃
theorem pt_none {Q : Value → Shared → Prop} (h : Q .none s) : wpAny (model prog w) A (evalPart none env) Q E s := by rw [evalPart_none]; exact wpAny_pure h
theorem pt_some {e : Expr} {Q : Value → Shared → Prop} (h : wpAny (model prog w) A (eval e env) Q E s) : wpAny (model prog w) A (evalPart (some e) env) Q E s := h
theorem sl_ls {value slice : Expr} {a : Addr} {vs : List Value} {vl vu : Value} {lo hi : Option Int} {Q : Value → Shared → Prop} (S : St c g K ((L, NsO mv) :: rest) s) (hL : c.h0.objs.size ≤ L) (hl : s.heap.IsList a vs.toArray) (pl : IsPart vl lo) (pu : IsPart vu hi) (hz : vs.length ≤ 2 ^ 24)
    (h : ∀ d s', St c g K ((L, NsO mv) :: (d, LpO ((vs.drop (lo.elim 0 (clipAt vs.length))).take (hi.elim vs.length (clipAt vs.length) - lo.elim 0 (clipAt vs.length)))) :: rest) s' → Q (.ref d) s')
    (hs : subscripted slice false (.ref a) (.ref s.heap.objs.size) = operate [.ref s.heap.objs.size, .ref a] (getItem (.ref a) (.ref s.heap.objs.size)) := by with_unfolding_all rfl)
    (hg : ∀ r, letTemporaryGo value (.ref a) r = pure () := by intro _; with_unfolding_all rfl) :
    wpAny (model prog w) A (subscriptTail value slice (.ref a) (.ref s.heap.objs.size)) Q E { s with heap := s.heap.push { cls := .type "slice", data := .fields #[vl, vu, .none] } } := by
  obtain ⟨news, F, N, back⟩ := S.fn hL
  refine slice_list F N hl pl pu (fun h' F' N' => ?_) hs hg (by simpa [sizeLine] using hz)
  obtain ⟨S', hx⟩ := back h' [_] s.toks F' N'
  have e : ({ cls := .type "list", data := .seq (slicePick vs.toArray lo hi none) } : Obj) = listOf ((vs.drop (lo.elim 0 (clipAt vs.length))).take (hi.elim vs.length (clipAt vs.length) - lo.elim 0 (clipAt vs.length))).toArray 0 := by
    rw [slicePick_plain]; simp
  refine h _ _ (S'.addOwn ⟨_, hx _ List.mem_cons_self, 0, e⟩ ?_ (fun q hq => ?_) fun b o' hk => ?_).swap
  · have := S.size; show _ ≤ s.heap.objs.size + 1; exact om72 this
  · exact Nat.ne_of_gt (Nat.lt_succ_of_lt (S.lt hq))
  · exact Nat.ne_of_lt (Nat.lt_succ_of_lt (S.Klt hk))
end
end

section
namespace DecA
open Builtin
set_option maxRecDepth 100000
theorem args2 (a b : Value) : argsOk "bytes.decode" ⟨[a, b], []⟩ := by unfold argsOk; kernel_rfl
section
variable {b : Array UInt8} {c : UInt8} {cs : List UInt8} {t u : Tok} {x : PySem.Str} {n : Nat}
theorem road_eq {id : String} : _codecs.decodeRoad id b (PySem.Str.ofString "ascii") none [] = (_codecs.runDecoder id _codecs.asciiDecoder none true b 0 [] >>= fun r => mkStr ⟨r.1⟩) := by kernel_rfl
theorem meets_text {t1 t2 : Tok} {d : PySem.Str} (hd : _codecs.runDecoder (PySem.Str.ofString "bytes.decode").toString _codecs.asciiDecoder none true b 0 [] = pure (x.cps, n)) :
    Meets («_codecs.decode.text» ⟨[.bytes b t, .str (PySem.Str.ofString "ascii") t1, .none, .str d t2], []⟩) (fun _ R s => d = PySem.Str.ofString "bytes.decode" ∧ x.length ≤ sizeLine ∧ R (.ok (.ret (.str x s.toks))) { s with toks := s.toks + 1 }) := by
  refine .of_wp fun prog w A R s hS => ?_
  obtain ⟨rfl, hsz, h⟩ := hS
  show wpAny _ _ (Bytes.bytesLike _ (.bytes b t) >>= fun r => _) _ _ s
  refine wpAny_bind (wpAny_of_eq KBd.like_eq ?_)
  refine wpAny_bind (wpAny_of_eq KBd.held_eq ?_)
  show wpAny _ _ (_codecs.decodeRoad _ b (PySem.Str.ofString "ascii") none [] >>= fun v => _) _ _ s
  rw [road_eq]
  rw [hd]
  refine wpAny_bind (wpAny_bind (wpAny_pure ?_))
  exact wpAny_mkStr (wpAny_pure ⟨_, rfl, h⟩) hsz
theorem entry_eq : «bytes.decode» ⟨[.bytes (c :: cs).toArray t, .str (PySem.Str.ofString "ascii") u], []⟩ = (mkStr (PySem.Str.ofString "utf-8") >>= fun _ => mkStr (PySem.Str.ofString "ascii") >>= fun e => mkStr (PySem.Str.ofString "bytes.decode") >>= fun d =>
    call (.builtin "_codecs.decode.text") [.bytes (c :: cs).toArray t, e, .none, d] >>= fun v => ret v) := by kernel_rfl
theorem meets_decode (hd : _codecs.runDecoder (PySem.Str.ofString "bytes.decode").toString _codecs.asciiDecoder none true (c :: cs).toArray 0 [] = pure (x.cps, n)) :
    Meets («bytes.decode» ⟨[.bytes (c :: cs).toArray t, .str (PySem.Str.ofString "ascii") u], []⟩) (fun _ R s => x.length ≤ sizeLine ∧ ∀ t' k, R (.ok (.ret (.str x t'))) { s with toks := k }) := by
  refine .of_wp fun prog w A R s hS => ?_
  obtain ⟨hsz, h⟩ := hS
  rw [entry_eq]
  refine wpAny_bind (wpAny_mkStr ?_ (by decide))
  refine wpAny_bind (wpAny_mkStr ?_ (by decide))
  refine wpAny_bind (wpAny_mkStr ?_ (by decide))
  exact wpAny_bind (call_function_meets KBd.kind_text KBd.plain_text KBd.entry_text (KBd.args_text _ _ _ _) (meets_text hd) ⟨rfl, hsz, wpAny_pure ⟨_, rfl, h _ _⟩⟩)
end
def chk (m : Sem (Array Nat × Nat)) (x : Array Nat × Nat) : Bool := match m with
  | .pure y => y == x
  | _ => false
theorem chk_eq {m : Sem (Array Nat × Nat)} {x : Array Nat × Nat} (h : chk m x = true) : m = pure x := by
  unfold chk at h
  split at h
  · rw [eq_of_beq h]; rfl
  · cases h
end DecA

/-- the letters of a number below 256 -/
def apB (n : Nat) : List UInt8 := if n < 16 then [UInt8.ofNat (65 + n)] else [UInt8.ofNat (65 + n / 16), UInt8.ofNat (65 + n % 16)]
def ap (n : Nat) : Str := ⟨((apB n).map (·.toNat)).toArray⟩
set_option maxRecDepth 100000 in
theorem ap_dec : ∀ n, n < 128 → DecA.chk (Builtin._codecs.runDecoder (PySem.Str.ofString "bytes.decode").toString Builtin._codecs.asciiDecoder none true (apB n).toArray 0 []) ((ap n).cps, (apB n).length) = true := by decide +kernel

section
variable {prog : Program} {w : World} {A : Around} {E : Value → Shared → Prop} {c : Cx} {g : Gs} {K : KP} {own rest : Own} {s : Shared} {env : Env} {L : Addr} {names gn : List Str} {vals : List (Option Value)} {mv : Mm} {GL BL : List (Str × Value)}
theorem c_decode {n : Nat} {t u : Tok} {Q : Value → Shared → Prop} (S : St c g K own s) (hn : n < 128) (h : ∀ t s', St c g K own s' → Q (.str (ap n) t) s') :
    wpAny (model prog w) A (call (.builtin "bytes.decode") [.bytes (apB n).toArray t, .str "ascii" u]) Q E s := by
  have hd := DecA.chk_eq (ap_dec n hn)
  have hl : (ap n).length ≤ sizeLine := by
    have : (ap n).length ≤ 2 := by
      show (ap n).cps.size ≤ 2
      unfold ap apB
      split <;> simp
    exact Nat.le_trans this (by decide)
  obtain ⟨b0, bs, e⟩ : ∃ b0 bs, apB n = b0 :: bs := by
    unfold apB
    split <;> exact ⟨_, _, rfl⟩
  rw [e] at hd ⊢
  exact call_meets FB.slot_bytes_decode (typeIs_bytes _ _ _) FB.entry_bytes_decode (DecA.args2 _ _) (DecA.meets_decode hd) ⟨hl, fun t' k => h t' _ (S.toks k)⟩

theorem it_str {p : Addr × Pr} {x : Str} {t : Tok} {Q : Value → Shared → Prop} (S : St c g K (p :: rest) s) (hA : A.handled = none) (ha : x.cps.all (· < 128) = true)
    (h : ∀ I s', St c g K (p :: (I, fun _ => True) :: rest) s' → Iter prog w A c K I x.cps.size (fun i v => ∃ cc u, x.cps[i]? = some cc ∧ v = .str ⟨#[cc]⟩ u) s'.heap → Q (.ref I) s') :
    wpAny (model prog w) A (pyIter (.str x t)) Q E s := by
  refine wpAny_pyIter_ascii ha (h _ _ (S.alloc _ trivial rfl _) ?_)
  refine ⟨[s.heap.objs.size], fun i h => h.IsStrIter s.heap.objs.size "str_ascii_iterator" x t i, Walks.strAscii hA _ x t, ⟨_, Heap.get?_push_size _ rfl, rfl, rfl⟩, ?_, fun b hb hne => absurd (List.mem_singleton.mp hb) hne, S.size⟩
  rintro i h' ⟨o, ho, hc, _⟩
  exact ⟨o, "str_ascii_iterator", ho, hc, by decide⟩

-- bytes
theorem ev_bytes {x : List UInt8} {k : Nat} {pos : Pos} {Q : Value → Shared → Prop} (S : St c g K own s) (h : ∀ t s', St c g K own s' → Q (.bytes x.toArray t) s') :
    wpAny (model prog w) A (eval (.Constant (.bytes x) k pos) env) Q E s := Constant_bytes (h _ _ (S.toks _))
theorem b_addb {a b : Array UInt8} {t u : Tok} {Q : Value → Shared → Prop} (S : St c g K own s) (hz : a.size + b.size ≤ 2 ^ 24) (h : ∀ t s', St c g K own s' → Q (.bytes (a ++ b) t) s') :
    wpAny (model prog w) A (binaryOp .Add (.bytes a t) (.bytes b u)) Q E s := KBy.add_bytes hz fun t' k => h t' _ (S.toks k)
theorem sl_by {value slice : Expr} {b : Array UInt8} {t : Tok} {vl vu : Value} {lo hi : Option Int} {Q : Value → Shared → Prop} (S : St c g K ((L, NsO mv) :: rest) s) (hL : c.h0.objs.size ≤ L) (pl : IsPart vl lo) (pu : IsPart vu hi) (hw : KBy.whole b lo hi = false) (hz : (KBy.picked b lo hi).size ≤ 2 ^ 24)
    (h : ∀ t s', St c g K ((L, NsO mv) :: rest) s' → Q (.bytes (KBy.picked b lo hi) t) s')
    (hs : subscripted slice false (.bytes b t) (.ref s.heap.objs.size) = operate [.ref s.heap.objs.size, .bytes b t] (getItem (.bytes b t) (.ref s.heap.objs.size)) := by with_unfolding_all rfl)
    (hg : ∀ r, letTemporaryGo value (.bytes b t) r = pure () := by intro _; with_unfolding_all rfl) :
    wpAny (model prog w) A (subscriptTail value slice (.bytes b t) (.ref s.heap.objs.size)) Q E { s with heap := s.heap.push { cls := .type "slice", data := .fields #[vl, vu, .none] } } := by
  obtain ⟨news, F, N, back⟩ := S.fn hL
  exact KBy.slice_N F N pl pu hw hz (fun h' t' k F' N' => h t' _ (back h' [] k F' N').1) hs hg

-- texts
theorem sub_str {value slice : Expr} {x : Str} {t u : Tok} {i : Int} {Q : Value → Shared → Prop} (S : St c g K own s) (h0 : 0 ≤ i) (h1 : i < x.length) (hz : i < 2 ^ 62)
    (h : ∀ t s', St c g K own s' → Q (.str (Txt.item x i) t) s')
    (hs : subscripted slice false (.str x t) (.int i u) = operate [.str x t, .int i u] (getItem (.str x t) (.int i u)) := by with_unfolding_all rfl)
    (hg : ∀ r, letTemporaryGo value (.str x t) r = pure () := by intro _; with_unfolding_all rfl) :
    wpAny (model prog w) A (subscriptTail value slice (.str x t) (.int i u)) Q E s :=
  item_str (by unfold fitsSsize; simp; exact om76 h0 hz) (by exact om75 h0) h1 (fun _ => h _ _ (S.toks _)) hs hg
theorem b_adds {x y : Str} {t u : Tok} {Q : Value → Shared → Prop} (S : St c g K own s) (hz : x.length + y.length ≤ 2 ^ 24) (h : ∀ t s', St c g K own s' → Q (.str (x ++ y) t) s') :
    wpAny (model prog w) A (binaryOp .Add (.str x t) (.str y u)) Q E s := PyProof.Rows.add_str (fun t' tk => h t' _ (S.toks tk)) hz
theorem c_lower {x : Str} {t : Tok} {Q : Value → Shared → Prop} (S : St c g K own s) (hz : Builtin.Str.tooLong (Txt.lower x).length = false) (h : ∀ t s', St c g K own s' → Q (.str (Txt.lower x) t) s') :
    wpAny (model prog w) A (call (.builtin "str.lower") [.str x t]) Q E s := SC.lower hz (h _ _ (S.toks _))
theorem c_upper {x : Str} {t : Tok} {Q : Value → Shared → Prop} (S : St c g K own s) (hz : Builtin.Str.tooLong (Txt.upper x).length = false) (h : ∀ t s', St c g K own s' → Q (.str (Txt.upper x) t) s') :
    wpAny (model prog w) A (call (.builtin "str.upper") [.str x t]) Q E s := SC.upper hz (h _ _ (S.toks _))
theorem c_index {x y : Str} {t u : Tok} {i : Nat} {l : List Nat} {Q : Value → Shared → Prop} (S : St c g K own s) (hi : Builtin.Str.occurrences x y 0 x.length 1 = i :: l) (h : ∀ t s', St c g K own s' → Q (.int i t) s') :
    wpAny (model prog w) A (call (.builtin "str.index") [.str x t, .str y u]) Q E s := SC.index hi (h _ _ (S.toks _))

/-- what stands behind is frozen -/
theorem St.freezeN {pre own2 : Own} (S : St c g K (pre ++ own2) s) (hm : c.mu = []) : ∃ K', Le K K' ∧ St c g K' pre s ∧ ∀ p ∈ own2, ∃ o, K' p.1 o ∧ p.2 o := by
  refine ⟨fun b o => K b o ∨ ∃ p ∈ own2, b = p.1 ∧ s.heap.get? b = some o, fun _ _ h => .inl h, ⟨fun b o h => .inl (S.le b o h), fun b o h => ?_, fun b o h => ?_, S.base, S.size, fun p hp => S.owned p (List.mem_append_left _ hp), fun p hp => S.ownNew p (List.mem_append_left _ hp), fun b o h q hq => ?_, ?_, S.gens, S.os⟩, fun p hp => ?_⟩
  · rcases h with h | ⟨p, hp, rfl, _⟩
    · exact S.new b o h
    · rcases S.ownNew p (List.mem_append_right _ hp) with h | h
      · rw [hm] at h; exact nomatch h
      · exact .inr h
  · rcases h with h | ⟨p, hp, rfl, e⟩
    · exact S.kept b o h
    · exact e
  · rcases h with h | ⟨p, hp, rfl, e⟩
    · exact S.sep b o h q (List.mem_append_left _ hq)
    · have nd := S.nd
      rw [List.map_append, List.nodup_append] at nd
      exact fun he => nd.2.2 _ (List.mem_map_of_mem hq) _ (List.mem_map_of_mem hp) he.symm
  · have nd := S.nd
    rw [List.map_append, List.nodup_append] at nd
    exact nd.1
  · obtain ⟨o, e, x⟩ := S.owned p (List.mem_append_right _ hp)
    exact ⟨o, .inr ⟨p, hp, rfl, e⟩, x⟩

def inn (as : List Addr) (rs : List (List Value)) : Own := List.zipWith (fun a r => (a, LpO r)) as rs
theorem inn_up : ∀ {as : List Addr} {rs : List (List Value)} {i : Nat} {a : Addr} {r r' : List Value}, as[i]? = some a → rs[i]? = some r → OwnUp (inn as rs) a (LpO r) (LpO r') (inn as (rs.set i r'))
  | a0 :: as, r0 :: rs, 0, a, r, r', h, h' => by
    simp only [List.getElem?_cons_zero, Option.some.injEq] at h h'
    subst h; subst h'
    exact .here
  | a0 :: as, r0 :: rs, i + 1, a, r, r', h, h' => by
    simp only [List.getElem?_cons_succ] at h h'
    exact .there (inn_up h h')
  | [], _, _, _, _, _, h, _ => by simp at h
  | _ :: _, [], _, _, _, _, _, h => by simp at h
theorem inn_mem : ∀ {as : List Addr} {rs : List (List Value)} {i : Nat} {a : Addr} {r : List Value}, as[i]? = some a → rs[i]? = some r → (a, LpO r) ∈ inn as rs
  | a0 :: as, r0 :: rs, 0, a, r, h, h' => by
    simp only [List.getElem?_cons_zero, Option.some.injEq] at h h'
    subst h; subst h'
    exact List.mem_cons_self
  | a0 :: as, r0 :: rs, i + 1, a, r, h, h' => by
    simp only [List.getElem?_cons_succ] at h h'
    exact List.mem_cons_of_mem _ (inn_mem h h')
  | [], _, _, _, _, h, _ => by simp at h
  | _ :: _, [], _, _, _, _, h => by simp at h
theorem RdAll.ofIdx : ∀ {vs : List Value} {ds : List PyData}, vs.length = ds.length → (∀ (i : Nat) (v : Value) (d : PyData), vs[i]? = some v → ds[i]? = some d → Rd K v d) → RdAll K vs ds
  | [], [], _, _ => .nil
  | v :: vs, d :: ds, hl, h => .cons (h 0 v d rfl rfl) (RdAll.ofIdx (by simpa using hl) fun i v d hv hd => h (i + 1) v d (by simpa using hv) (by simpa using hd))
  | [], _ :: _, hl, _ => by simp at hl
  | _ :: _, [], hl, _ => by simp at hl
end
end

section
/-- the def stands at a, with these defaults -/
def FunD (K : KP) (a : Addr) (f : Fd) (dV kV : Value) : Prop :=
  ∃ doc pm an cd ct d sl co vs t, K a ⟨.type "function", d, .func (fnOf f.name f.qual f.P f.B f.S dV kV doc pm an (.ref cd) ct), sl⟩ ∧ K cd co ∧ co.data = .fields vs ∧ vs[1]? = some (.str f.qual t)
theorem FunD.mono {K K' : KP} {a : Addr} {f : Fd} {dV kV : Value} (h : FunD K a f dV kV) (l : Le K K') : FunD K' a f dV kV := by
  obtain ⟨doc, pm, an, cd, ct, d, sl, co, vs, t, h1, h2, h3⟩ := h
  exact ⟨doc, pm, an, cd, ct, d, sl, co, vs, t, l _ _ h1, l _ _ h2, h3⟩

section
variable {prog : Program} {w : World} {A : Around} {E : Value → Shared → Prop} {c : Cx} {g : Gs} {K : KP} {own rest : Own} {s : Shared} {env : Env} {L : Addr} {names gn : List Str} {vals : List (Option Value)} {GL BL : List (Str × Value)}

theorem lookup_vm2 (ls : List Str) : ∀ {bs : List (Str × Value)}, (bs.map (·.1)).Nodup → ∀ x, bs.reverse.lookup x = vm (bs.map (·.1) ++ ls) (bs.map (fun p => some p.2) ++ ls.map fun _ => none) x := by
  intro bs nd x
  have := lookup_vm ls (ps := bs.map (·.1)) (vs := bs.map (·.2)) nd (by simp) x
  rw [List.map_map] at this
  rw [show (bs.map (·.1)).zip (bs.map (·.2)) = bs by simp [List.zip_map', List.map_id']] at this
  exact this

theorem code_fun {a : Addr} {f : Fd} {args : Args} {n : Nat} {ls : List Str} {dV kV : Value} {R : Result → Shared → Prop} {h0 : Heap}
    (B : List (Str × Value) → Own → Prop)
    (S : St c g K own s) (hF : FunD K a f dV kV) (hG : GB K GL BL) (hA : AOk A (n + 1)) (hS : ScopeOk f.S names gn)
    (hB : ∀ bs own1, B bs own1 → names = bs.map (·.1) ++ ls)
    (hb : ∀ doc pm an cd ct (Q' : List (Str × Value) → Shared → Prop) (E' : Value → Shared → Prop) (A' : Around), (∀ bs own1 s', B bs own1 → St c g K own1 s' → Q' bs s') → wpAny (model prog w) A' (bindArgs (fnOf f.name f.qual f.P f.B f.S dV kV doc pm an cd ct) args) Q' E' s)
    (h : ∀ bs own1 L env s₁ A' (N : Flow → Shared → Prop), B bs own1 → c.h0.objs.size ≤ L → AOk A' n → EnvF env L names gn → St c g K ((L, FrO names (bs.map (fun p => some p.2) ++ ls.map fun _ => none)) :: own1) s₁ →
      (∀ fl s', R (.ok (.ret (match fl with | .ret v => v | _ => .none))) s' → N fl s') → wpAny (model prog w) A' (execs f.B env) N (fun _ _ => False) s₁) :
    codeAny (model prog w) A (.call (.ref a) args) R s := by
  obtain ⟨doc, pm, an, cd, ct, d, sl, co, vs, t, h1, h2, h3, h4⟩ := hF
  obtain ⟨og, ob, ol, mg, mb, ml, _, _, _, _, hol, hml, hlim, _⟩ := hG
  refine codeAny_call_function hA.room (S.kept _ _ h1) rfl hS.plain.1 hS.plain.2 rfl ⟨cd, co, vs, t, rfl, S.kept _ _ h2, h3, h4⟩ ?_
  refine hb _ _ _ _ _ _ _ _ fun bs own1 s' hBs S' => ?_
  have hnm := hB _ _ hBs
  have lim : s'.heap.NoLimit := ⟨ml, ns_of ⟨_, S'.kept _ _ hol, hml⟩, hlim⟩
  have hnd : (bs.map (·.1)).Nodup := by have := hS.nd; rw [hnm] at this; exact (List.nodup_append.mp this).1
  refine wpAny_newFunctionEnv hS.cells (fun x hx => ?_) (fun h' hns hsb => ?_) hS.kind
  · exact (hS.all x.1 (by rw [hnm]; exact List.mem_append_left _ (List.mem_map_of_mem hx))).1
  refine ⟨lim.fresh _ hsb, codeAny_func ?_⟩
  have S0 : St c g K ((s'.heap.objs.size, fun _ => True) :: own1) { s' with heap := s'.heap.push { cls := .type "frame", data := .dict #[] }, toks := s'.toks } := by
    have z := S'.grow (h' := s'.heap.push { cls := .type "frame", data := .dict #[] }) s'.toks (fun b o e => Heap.get?_push_of_some _ e) (by rw [Heap.size_push]; exact Nat.le_succ _)
    exact z.addOwn ⟨_, Heap.get?_push_size _ rfl, trivial⟩ S'.size (fun p hp => Nat.ne_of_gt (S'.lt hp)) fun b o hk => Nat.ne_of_lt (S'.Klt hk)
  have S1 := S0.turn (s'.toks + bs.length) (P' := FrO names (bs.map (fun p => some p.2) ++ ls.map fun _ => none)) .here hsb (by
    refine of_ns ?_
    have e : (fun x => List.lookup x bs.reverse) = vm names (bs.map (fun p => some p.2) ++ ls.map fun _ => none) := by
      funext x
      rw [hnm]; exact lookup_vm2 ls hnd x
    rw [← e]; exact hns)
  exact wpAny_mono (h bs own1 _ (envF f s'.heap.objs.size a (.ref cd)) _ _ _ hBs S'.size (hA.deeper _) (envF_ok hS _ _ _) S1 fun _ _ q => q) (fun _ _ x => x) fun _ _ x => x.elim

/-- a plain call (no defaults), some old objects lent -/
theorem code_funL {a : Addr} {f : Fd} {args : List Value} {n : Nat} {ps ls : List Str} {R : Result → Shared → Prop}
    (S : St c g K own s) (hF : Fun K a f) (hG : GB K GL BL) (hA : AOk A (n + 1)) (hS : ScopeOk f.S names gn)
    (hn : names = ps ++ ls) (hv : vals = args.map some ++ ls.map fun _ => none) (hl : ps.length = args.length)
    (hb : ∀ doc pm an cd ct, bindArgs (fnOf f.name f.qual f.P f.B f.S .none .none doc pm an cd ct) ⟨args, []⟩ = pure (ps.zip args))
    (h : ∀ L env s₁ A' (N : Flow → Shared → Prop), c.h0.objs.size ≤ L → AOk A' n → EnvF env L names gn → St c g K ((L, FrO names vals) :: own) s₁ →
      (∀ fl s', R (.ok (.ret (match fl with | .ret v => v | _ => .none))) s' → N fl s') → wpAny (model prog w) A' (execs f.B env) N (fun _ _ => False) s₁) :
    codeAny (model prog w) A (.call (.ref a) ⟨args, []⟩) R s := by
  have e1 : (ps.zip args).map (·.1) = ps := List.map_fst_zip (by exact om20 hl)
  have e2 : (ps.zip args).map (fun p => some p.2) = args.map some := by
    have : (ps.zip args).map (·.2) = args := List.map_snd_zip (by exact om77 hl)
    rw [← this, List.map_map, this]; rfl
  refine code_fun (ls := ls) (dV := .none) (kV := .none) (h0 := c.h0) (fun bs own1 => bs = ps.zip args ∧ own1 = own) S hF hG hA hS ?_ ?_ ?_
  · rintro bs own1 ⟨rfl, rfl⟩; rw [e1]; exact hn
  · intro doc pm an cd ct Q' E' A' hq
    rw [hb]; exact wpAny_pure (hq _ _ _ ⟨rfl, rfl⟩ S)
  · rintro bs own1 L env s₁ A' N ⟨rfl, rfl⟩ hL hA he S1 hq
    rw [e2, ← hv] at S1
    exact h L env s₁ A' N hL hA he S1 hq

-- instances
/-- the entries are these, in this order -/
inductive EsIs : List DictEntry → List (Str × Value) → Prop
  | nil : EsIs [] []
  | cons {es : List DictEntry} {l : List (Str × Value)} (hsh : Int) (x : Str) (t : Tok) (v : Value) : EsIs es l → EsIs (⟨hsh, .str x t, v⟩ :: es) ((x, v) :: l)
def AtO (l : List (Str × Value)) : Pr := fun o => ∃ es n, o = dictOf es n ∧ EsIs es l
theorem isStr_str (x y : Str) (t : Tok) : (Value.str x t).isStr y = (x == y) := rfl
theorem EsIs.look {es : List DictEntry} {l : List (Str × Value)} (h : EsIs es l) (x : Str) : getL x es = some (l.lookup x) := by
  have key : (es.find? (·.key.isStr x)).map (·.val) = l.lookup x ∧ es.any (·.refKey) = false := by
    induction h with
    | nil => exact ⟨rfl, rfl⟩
    | @cons es l hsh y t v h ih =>
      refine ⟨?_, ?_⟩
      · rw [List.find?_cons, List.lookup_cons]
        show Option.map _ (match (y == x) with | true => _ | false => _) = _
        by_cases e : y = x
        · subst e; simp
        · have e1 : (y == x) = false := beq_eq_false_iff_ne.mpr e
          have e2 : (x == y) = false := beq_eq_false_iff_ne.mpr (Ne.symm e)
          rw [e1, e2]; exact ih.1
      · rw [List.any_cons, ih.2]; rfl
  unfold getL
  cases hf : es.find? (·.key.isStr x) with
  | none => rw [hf] at key; rw [← key.1]; simp [key.2]
  | some e => rw [hf] at key; rw [← key.1]; rfl
def updL (x : Str) (v : Value) : List (Str × Value) → List (Str × Value)
  | [] => [(x, v)]
  | (y, u) :: r => if y == x then (y, v) :: r else (y, u) :: updL x v r
theorem EsIs.put {es : List DictEntry} {l : List (Str × Value)} (h : EsIs es l) (x : Str) (v : Value) (hsh : Int) (t : Tok) : EsIs (putL x hsh (.str x t) v es) (updL x v l) := by
  induction h with
  | nil => exact .cons _ _ _ _ .nil
  | @cons es l hsh' y t' u h ih =>
    show EsIs (if (y == x) = true then _ else _) (if (y == x) = true then _ else _)
    by_cases e : (y == x) = true
    · rw [if_pos e, if_pos e]; exact .cons _ _ _ _ h
    · rw [if_neg e, if_neg e]; exact .cons _ _ _ _ ih
theorem EsIs.len {es : List DictEntry} {l : List (Str × Value)} (h : EsIs es l) : es.length = l.length := by
  induction h with
  | nil => rfl
  | cons _ _ _ _ _ ih => rw [List.length_cons, List.length_cons, ih]
end
end

section
def InK (KF : Frag) (K : KP) : Prop := ∀ a o, KF.lookup a = some o → K a o
theorem InK.mono {KF : Frag} {K K' : KP} (h : InK KF K) (l : Le K K') : InK KF K' := fun a o e => l _ _ (h a o e)

section
variable {prog : Program} {w : World} {A : Around} {E : Value → Shared → Prop} {c : Cx} {g : Gs} {K : KP} {own rest : Own} {s : Shared} {env : Env} {L : Addr} {names gn : List Str} {vals : List (Option Value)} {mv : Mm} {GL BL : List (Str × Value)} {KF : Frag}

theorem InK.in_ (h : InK KF K) (S : St c g K own s) : KF.In s.heap := fun a o e => S.kept a o (h a o e)

/-- what the class's side of the object looks like, for a name kept in the object's own dict -/
structure OwnNm (KF : Frag) (C : Addr) (name : Str) : Prop where
  ga : findIn KF (.ref C) "__getattribute__" = some (some (.builtin "object.__getattribute__"))
  hd : hasDictIn KF C = true
  at_ : ∃ attr, findIn KF (.ref C) name = some attr ∧ noGet KF attr = true

theorem at_get {x C dx : Addr} {l : List (Str × Value)} {name : Str} {v : Value} {expr : Bool} {Q : Value → Shared → Prop} (S : St c g K own s) (X : InK KF K) (hI : K x (instObj C dx)) (hd : ∃ o, s.heap.get? dx = some o ∧ AtO l o)
    (hN : OwnNm KF C name) (hl : l.lookup name = some v) (hv : handedIn v = true) (h : ∀ s', St c g K own s' → Q v s') :
    wpAny (model prog w) A (getAttr (.ref x) name expr) Q E s := by
  refine notnot fun hGoal => ?_
  obtain ⟨o, ho, es, n, rfl, he⟩ := hd
  refine hGoal ?_
  clear hGoal
  refine notnot fun hGoal => ?_
  obtain ⟨attr, ha, hn⟩ := hN.at_
  refine hGoal ?_
  clear hGoal
  refine get_value (X.in_ S) (C := C) (od := some (dictOf es n)) ⟨S.kept _ _ hI, rfl, rfl, ho⟩ hN.ga (findObj_own hN.hd ha hn ?_) hv (h _ (S.toks _))
  rw [lookIn_dict, he.look, hl]
theorem at_meth {x C dx f : Addr} {l : List (Str × Value)} {name : Str} {pl : Sem Bool} {Q : Value × List Value → Shared → Prop} (S : St c g K own s) (X : InK KF K) (hI : K x (instObj C dx)) (hd : ∃ o, s.heap.get? dx = some o ∧ AtO l o)
    (hg : plainGet KF C name = true) (hf : findIn KF (.ref C) name = some (some (.ref f))) (ht : isFn KF (.ref f) = true) (hl : l.lookup name = none) (h : Q (.ref f, [.ref x]) s) :
    wpAny (model prog w) A (getMethod (.ref x) name pl) Q E s := by
  refine notnot fun hGoal => ?_
  obtain ⟨o, ho, es, n, rfl, he⟩ := hd
  refine hGoal ?_
  clear hGoal
  refine method_fn (X.in_ S) (C := C) (od := some (dictOf es n)) ⟨S.kept _ _ hI, rfl, rfl, ho⟩ (plainGet_of hg).1 (plainGet_of hg).2 hf (beq_iff_eq.mp ht) ?_ h
  show (lookIn name (dictOf es n)).map _ = _
  rw [lookIn_dict, he.look, hl]; rfl

structure SetNm (KF : Frag) (C : Addr) (name : Str) : Prop where
  sa : findIn KF (.ref C) "__setattr__" = some (some (.builtin "object.__setattr__"))
  po : plainOver KF C = true
  tk : takerIn KF C name = some none
  hd : hasDictIn KF C = true

theorem at_set {x C dx : Addr} {l : List (Str × Value)} {name : Str} {v : Value} {rest' : Own} {Q : Unit → Shared → Prop} (S : St c g K ((L, NsO mv) :: rest) s) (hL : c.h0.objs.size ≤ L) (X : InK KF K) (hI : K x (instObj C dx))
    (hu : OwnUp rest dx (AtO l) (AtO (updL name v l)) rest') (hN : SetNm KF C name) (hz : (updL name v l).length ≤ 100)
    (h : ∀ s', St c g K ((L, NsO mv) :: rest') s' → Q () s') :
    wpAny (model prog w) A (setAttr (.ref x) name v) Q E s := by
  refine notnot fun hGoal => ?_
  obtain ⟨o, ho, es, n, rfl, he⟩ := S.owned (dx, AtO l) (List.mem_cons_of_mem _ hu.mem)
  refine hGoal ?_
  clear hGoal
  have hne : dx ≠ L := by
    have nd := S.nd
    rw [List.map_cons, List.nodup_cons] at nd
    rintro rfl
    exact nd.1 (List.mem_map_of_mem (f := (·.1)) hu.mem)
  let pre : List (Addr × Obj) := (List.range s.heap.objs.size).filterMap fun a => if a = L ∨ a = dx then none else (s.heap.get? a).map fun o => (a, o)
  have mem : ∀ a o, a ≠ L → a ≠ dx → s.heap.get? a = some o → (a, o) ∈ pre := by
    intro a o ha hb e
    refine List.mem_filterMap.mpr ⟨a, List.mem_range.mpr (Heap.lt_size e), ?_⟩
    rw [if_neg (by rintro (h | h); exact ha h; exact hb h), e]; rfl
  have mem' : ∀ p ∈ pre, p.1 ≠ L ∧ p.1 ≠ dx ∧ s.heap.get? p.1 = some p.2 := by
    intro p hp
    refine notnot fun hGoal => ?_
    obtain ⟨a, _, e⟩ := List.mem_filterMap.mp hp
    refine hGoal ?_
    clear hGoal
    split at e
    · cases e
    · rename_i ha
      cases e' : s.heap.get? a with
      | none => rw [e'] at e; cases e
      | some o => rw [e'] at e; cases e; exact ⟨fun h => ha (.inl h), fun h => ha (.inr h), e'⟩
  have none_ : ∀ b : Addr, ({} : Heap).get? b = none := fun b => by simp [Heap.get?]
  have F : Fr {} L s.heap (mv) := ⟨S.ns, (fun b o e => by rw [none_] at e; cases e), Nat.zero_le _⟩
  have N : News {} L s.heap (pre ++ [(dx, dictOf es n)]) := fun p hp => by
    rcases List.mem_append.mp hp with hp | hp
    · exact ⟨(mem' p hp).2.2, (mem' p hp).1, none_ _⟩
    · rw [List.mem_singleton.mp hp]; exact ⟨ho, hne, none_ _⟩
  have S₁ := S.toks (s.toks + 1)
  have he' := he.put name v (PyData.keyHash w.params name) (s.toks + 1)
  refine set_plain (X.in_ S) (C := C) (od := some (dictOf es n)) ⟨S.kept _ _ hI, rfl, rfl, ho⟩ hN.sa ?_
  refine osa_dict (s := { s with toks := s.toks + 1 }) (pre := pre) (post := []) (es := putL name (PyData.keyHash w.params name) (.str name (s.toks + 1)) v es) (n := putN name es n) F N (X.in_ S₁) ⟨S.kept _ _ hI, rfl, rfl, ho⟩ rfl hN.po hN.tk hN.hd ?_ (fun p hp => (mem' p hp).2.1) (fun _ hp => nomatch hp) (putName_dict _ _ _ _ _ _) rfl (by rw [he'.len]; exact om78 hz) fun h' F' N' => ?_
  · rw [lookIn_dict, he.look]; rfl
  refine h _ ?_
  have keep : ∀ b o, b ≠ L → b ≠ dx → s.heap.get? b = some o → h'.get? b = some o := fun b o hb hb' e => (N' (b, o) (List.mem_append_left _ (mem b o hb hb' e))).1
  have hdx : h'.get? dx = some (dictOf (putL name (PyData.keyHash w.params name) (.str name (s.toks + 1)) v es) (putN name es n)) := (N' (dx, _) (List.mem_append_right _ (List.mem_singleton.mpr rfl))).1
  refine notnot fun hGoal => ?_
  obtain ⟨oL, eL, pL⟩ := of_ns F'.ns
  refine hGoal ?_
  clear hGoal
  have nd := S.nd
  have hm : (dx, AtO l) ∈ (L, NsO mv) :: rest := List.mem_cons_of_mem _ hu.mem
  have ndr : (rest.map (·.1)).Nodup := by rw [List.map_cons, List.nodup_cons] at nd; exact nd.2
  have hLr : L ∉ rest.map (·.1) := by rw [List.map_cons, List.nodup_cons] at nd; exact nd.1
  have hadr := hu.adr
  refine ⟨S.le, S.new, fun b o h => keep _ _ (S.sep b o h _ List.mem_cons_self) (S.sep b o h _ hm) (S.kept b o h), fun b o hbo hb => keep _ _ ?_ ?_ (S.base b o hbo hb), Nat.le_of_lt (Nat.lt_of_le_of_lt hL (Heap.lt_size eL)), fun q hq => ?_, fun q hq => ?_, fun b o h q hq => ?_, ?_, S.gens, S.os⟩
  · rintro rfl
    exact absurd (Heap.lt_size hbo) (Nat.not_lt.mpr hL)
  · rintro rfl
    rcases S.ownNew _ hm with h1 | h1
    · exact hb h1
    · exact absurd (Heap.lt_size hbo) (Nat.not_lt.mpr h1)
  · rcases List.mem_cons.mp hq with rfl | hq
    · exact ⟨oL, eL, pL⟩
    · rcases hu.parts ndr q hq with rfl | ⟨hq', hne'⟩
      · exact ⟨_, hdx, _, _, rfl, he'⟩
      · refine notnot fun hGoal => ?_
        obtain ⟨o', e', x'⟩ := S.owned q (List.mem_cons_of_mem _ hq')
        refine hGoal ?_
        clear hGoal
        exact ⟨o', keep _ _ (fun h => hLr (by rw [← h]; exact List.mem_map_of_mem (f := (·.1)) hq')) hne' e', x'⟩
  · rcases List.mem_cons.mp hq with rfl | hq
    · exact S.ownNew _ List.mem_cons_self
    · have : q.1 ∈ rest.map (·.1) := by rw [← hadr]; exact List.mem_map_of_mem (f := (·.1)) hq
      refine notnot fun hGoal => ?_
      obtain ⟨p, hp, e⟩ := List.mem_map.mp this
      refine hGoal ?_
      clear hGoal
      rw [← e]; exact S.ownNew p (List.mem_cons_of_mem _ hp)
  · rcases List.mem_cons.mp hq with rfl | hq
    · exact S.sep b o h _ List.mem_cons_self
    · have : q.1 ∈ rest.map (·.1) := by rw [← hadr]; exact List.mem_map_of_mem (f := (·.1)) hq
      refine notnot fun hGoal => ?_
      obtain ⟨p, hp, e⟩ := List.mem_map.mp this
      refine hGoal ?_
      clear hGoal
      rw [← e]; exact S.sep b o h p (List.mem_cons_of_mem _ hp)
  · rw [List.map_cons, hadr]; exact nd
end
end

section
section
variable {prog : Program} {w : World} {A : Around} {E : Value → Shared → Prop} {c : Cx} {g : Gs} {K : KP} {own rest : Own} {s : Shared} {env : Env} {L : Addr} {names gn : List Str} {vals : List (Option Value)} {GL BL : List (Str × Value)} {KF : Frag}

def starred : Expr → Bool
  | .Starred .. => true
  | _ => false
theorem swapped2 {x y : Str} {px py tp vp : Pos} {k k2 : Nat} {e1 e2 : Expr} (he : EnvF env L names gn) (hx : env.kindOf x = some .local) (hy : env.kindOf y = some .local) (hl : (py.line == px.line) = true) (hxy : (x == y) = false)
    (h1 : [e1, e2].any (fun | .Starred .. => true | _ => false) = false) (hf : [e1, e2].all (foldedForSure 8) = false) (hc : [e1, e2].all (constantsAlone 8) = false) :
    swappedStores [.Tuple [.Name x px, .Name y py] k tp] (.Tuple [e1, e2] k2 vp) env = pure (some [x, y]) := by
  have hb : env.blockKind = .function := by unfold Env.blockKind; rw [he.kind]; rfl
  have hlp : (Expr.Name x px).pos.line = px.line := rfl
  have hd : ([x, y] : List Str).eraseDups.length = 2 := by
    have hne : ¬ (y == x) = true := by
      rw [Bool.beq_comm]
      simp only [hxy]
      decide
    simp [List.eraseDups_cons, hne]
  unfold swappedStores
  simp only [hb, List.length_cons, List.length_nil]
  simp only [List.filterMap_cons, List.filterMap_nil, List.head?_cons, Option.map_some, Option.getD_some, hlp, hx, hy, hl, beq_self_eq_true, Bool.and_self, if_true, hd, hf, hc]
  have h1' : ¬ ([e1, e2].any (fun | .Starred .. => true | _ => false) = true) := by rw [h1]; exact Bool.false_ne_true
  split
  · rename_i h; exact absurd h (by decide)
  · split
    · rename_i h; exact absurd h h1'
    · split
      · rename_i h; exact absurd h (by show ¬ (((2 : Nat) != 2 || (2 : Nat) != 2) = true); decide)
      · simp

/-- a new tuple of any values, frozen -/
theorem nw_tupV {vs : List Value} {Q : Value → Shared → Prop} (S : St c g K own s)
    (h : ∀ a s' K', Le K K' → St c g K' own s' → K' a { cls := .type "tuple", data := .seq vs.toArray } → Q (.ref a) s') (hsz : vs.length ≤ sizeLine := by size_fits) :
    wpAny (model prog w) A (newTuple vs) Q E s :=
  wpAny_newTuple (h _ _ _ (le_add _ _ _) (S.allocK { cls := .type "tuple", data := .seq vs.toArray } rfl _) (.inr ⟨rfl, rfl⟩)) hsz
/-- x, y = a, b into two locals of one line: stored from the right -/
theorem x_swap2 {x y : Str} {px py tp pos : Pos} {k : Nat} {value : Expr} {Q : Flow → Shared → Prop} (hw : swappedStores [.Tuple [.Name x px, .Name y py] k tp] value env = pure (some [x, y]))
    (h : wpAny (model prog w) A (eval value env) (fun v s₁ => wpAny (model prog w) A (unpackItems v ([x, y] : List Str).length none) (fun items s₂ =>
      wpAny (model prog w) A (assignInOrder (([x, y] : List Str).reverse.map fun n => bindName env n) items.reverse) (fun _ => Q .next) E s₂) E s₁) E s)
    (hs : swapsWithSole [.Tuple [.Name x px, .Name y py] k tp] value pos.line env = pure false := by rfl) :
    wpAny (model prog w) A (exec (.Assign [.Tuple [.Name x px, .Name y py] k tp] value pos) env) Q E s :=
  Assign_Tuple_swapped h hs hw
theorem un_tup2 {p : Addr × Pr} {x y : Str} {a : Addr} {o : Obj} {v1 v2 : Value} {Q : Unit → Shared → Prop} (S : St c g K (p :: rest) s) (hz : c.h0.objs.size ≤ p.1) (hA : A.handled = none) (hk : K a o) (ho : o = { cls := .type "tuple", data := .seq [v1, v2].toArray })
    (h : ∀ s', St c g K (p :: rest) s' → wpAny (model prog w) A (storeName env y v2) (fun _ s₁ => wpAny (model prog w) A (storeName env x v1) Q E s₁) E s') :
    wpAny (model prog w) A (unpackItems (.ref a) ([x, y] : List Str).length none) (fun items s₂ => wpAny (model prog w) A (assignInOrder (([x, y] : List Str).reverse.map fun n => bindName env n) items.reverse) Q E s₂) E s := by
  subst ho
  rw [show ([x, y] : List Str).length = ([v1, v2].toArray).size from rfl]
  refine wpAny_unpackItems_tuple (items := [v1, v2].toArray) hA ⟨_, S.kept _ _ hk, rfl, _, rfl⟩ fun h' he => ?_
  have S' := S.ext hz s.toks he
  show wpAny _ _ (assignInOrder [bindName env y, bindName env x] [v2, v1]) _ _ _
  refine assignInOrder_cons (wpAny_bindName (wpAny_mono (h _ S') (fun _ s₁ h₁ => ?_) fun _ _ e => e))
  exact assignInOrder_cons (wpAny_bindName (wpAny_mono h₁ (fun _ s₂ h₂ => assignInOrder_nil h₂) fun _ _ e => e))

theorem AOk.makes {A : Around} {n : Nat} {C : Addr} {r : List Value} {kw : List (Str × Value)} (h : AOk A (n + 1)) : AOk (A.under (.builtin "type.__call__" ⟨.ref C :: r, kw⟩)) n := by
  refine ⟨h.handled, ?_, ?_⟩
  · have := h.depth; show A.depth + 1 + n < 1000; exact om55 this
  · have := h.units; show A.units + 1 + 8 * n + 100 < 9900; exact om52 this
theorem c_len_tup {v : Value} {ds : List PyData} {Q : Value → Shared → Prop} (S : St c g K own s) (hr : Rd K v (.tuple ds)) (hz : ds.length < 2 ^ 62) (h : ∀ t s', St c g K own s' → Q (.int ds.length t) s') :
    wpAny (model prog w) A (call (.builtin "len") [v]) Q E s := by
  refine notnot fun hGoal => ?_
  obtain ⟨a, vs, rfl, ht, r⟩ := S.rdTuple hr
  refine hGoal ?_
  clear hGoal
  have e := r.length
  rw [← e] at h hz
  refine len_tuple ht (by simp; exact om65 hz) ?_
  have := h (s.toks + 1) _ (S.toks (s.toks + 1 + 1))
  simpa using this
theorem c_tuple {p : Addr × Pr} {a : Addr} {vs : List Value} {ds : List PyData} {Q : Value → Shared → Prop} (S : St c g K (p :: rest) s) (hz : c.h0.objs.size ≤ p.1) (hl : s.heap.IsList a vs.toArray) (hr : RdAll K vs ds) (hsz : vs.length ≤ 2 ^ 24)
    (h : ∀ D s' K', Le K K' → St c g K' (p :: rest) s' → Rd K' (.ref D) (.tuple ds) → Q (.ref D) s') : wpAny (model prog w) A (call (.type "tuple") [.ref a]) Q E s := by
  refine call_tuple_list hl (fun h' hk => ?_) (by simpa [sizeLine] using hsz)
  have S' := S.keep hz s.toks hk
  refine h _ _ _ (le_add _ _ _) (S'.allocK { cls := .type "tuple", data := .seq vs.toArray } rfl s.toks) (.tuple (.inr ⟨rfl, rfl⟩) rfl rfl (by simpa using hr.mono (le_add _ _ _)))
theorem fn_at {a : Addr} {f : Fd} (S : St c g K own s) (hF : Fun K a f) : FnAt a s.heap := by
  refine notnot fun hGoal => ?_
  obtain ⟨doc, pm, an, cd, ct, d, sl, co, vs, t, h1, _⟩ := hF
  refine hGoal ?_
  clear hGoal
  exact ⟨_, _, _, _, S.kept _ _ h1⟩
theorem c_range2 {a b : Int} {t u : Tok} {Q : Value → Shared → Prop} (S : St c g K own s) (h : ∀ r s' K', Le K K' → St c g K' own s' → Rng K' r a b → Q (.ref r) s') :
    wpAny (model prog w) A (call (.type "range") [.int a t, .int b u]) Q E s :=
  call_range_2 (h _ _ _ (le_add _ _ _) (S.allocK _ rfl _) ⟨_, _, _, .inr ⟨rfl, rfl⟩⟩)

theorem St.swap1 {p q r : Addr × Pr} (S : St c g K (p :: q :: r :: rest) s) : St c g K (p :: r :: q :: rest) s :=
  S.perm (List.Perm.cons _ (List.Perm.swap _ _ _))
theorem St.drop3 {p q r t : Addr × Pr} (S : St c g K (p :: q :: r :: t :: rest) s) : St c g K (p :: q :: r :: rest) s :=
  S.sub (fun x hx => by simp only [List.mem_cons] at hx ⊢; rcases hx with h | h | h | h <;> simp [h])
    (by have := S.nd; simp only [List.map_cons, List.nodup_cons, List.mem_cons, not_or] at this ⊢; exact ⟨⟨this.1.1, this.1.2.1, this.1.2.2.2⟩, ⟨this.2.1.1, this.2.1.2.2⟩, this.2.2.1.2, this.2.2.2.2⟩)

theorem it_range2 {p : Addr × Pr} {r : Addr} {a n : Int} {Q : Value → Shared → Prop} (S : St c g K (p :: rest) s) (hA : A.handled = none) (hr : Rng K r a n) (ha : 0 ≤ a) (ha2 : a < 2 ^ 62) (hn0 : 0 ≤ n) (hn : n < 2 ^ 62)
    (h : ∀ I s', St c g K (p :: (I, fun _ => True) :: rest) s' → Iter prog w A c K I (n - a).toNat (fun i v => ∃ t, v = .int (a + i) t) s'.heap → Q (.ref I) s') :
    wpAny (model prog w) A (pyIter (.ref r)) Q E s := by
  refine notnot fun hGoal => ?_
  obtain ⟨t, u, v, hk⟩ := hr
  refine hGoal ?_
  clear hGoal
  have hsz : Builtin.Range.rangeSize a n 1 = ((n - a).toNat : Int) := by
    rw [rangeSize_one]
    split <;> omega
  refine wpAny_pyIter_range (S.kept _ _ hk) (small_one (by exact om61 ha) (by exact om58 ha2) (by exact om61 hn0) (by exact om58 hn)) (h _ _ (S.alloc _ trivial rfl _) ?_)
  refine ⟨[s.heap.objs.size], fun i h => IsRangeIter h s.heap.objs.size (a + ↑i * 1) (↑(n - a).toNat - ↑i) 1, ?_, ?_, fun i h' x => ⟨_, "range_iterator", x, rfl, by decide⟩, fun b hb hne => absurd (List.mem_singleton.mp hb) hne, S.size⟩
  · have W := Walks.range (prog := prog) (w := w) hA s.heap.objs.size a 1 (n - a).toNat
    simpa using W
  · show Heap.get? _ _ = _
    rw [Heap.get?_push_size _ rfl, hsz]
    simp
end
end

section
section
variable {prog : Program} {w : World} {A : Around} {E : Value → Shared → Prop} {c : Cx} {g : Gs} {K : KP} {own rest : Own} {s : Shared} {env : Env} {L : Addr} {names gn : List Str} {vals : List (Option Value)} {GL BL : List (Str × Value)} {KF : Frag}

theorem eq_rd {a b : Value} {da db : PyData} {n : Nat} {Q : Value → Shared → Prop} (S : St c g K own s) (ra : Rd K a da) (rb : Rd K b db) (ha : SeqAt.shaped da = true) (hb : SeqAt.shaped db = true) (hA : AOk A n) (h : Q (.bool (PyData.eqv da db)) s) :
    wpAny (model prog w) A (compareOp .Eq a b) Q E s := by
  obtain ⟨as, r1⟩ := ra.reads S.kept
  obtain ⟨bs, r2⟩ := rb.reads S.kept
  exact eq_dataH r1 r2 ha hb (by have := hA.units; show A.units + 64 < 9900; exact om80 this) h
theorem ne_rd {a b : Value} {da db : PyData} {n : Nat} {Q : Value → Shared → Prop} (S : St c g K own s) (ra : Rd K a da) (rb : Rd K b db) (ha : SeqAt.shaped da = true) (hb : SeqAt.shaped db = true) (hA : AOk A n) (h : Q (.bool (!PyData.eqv da db)) s) :
    wpAny (model prog w) A (compareOp .NotEq a b) Q E s := by
  obtain ⟨as, r1⟩ := ra.reads S.kept
  obtain ⟨bs, r2⟩ := rb.reads S.kept
  exact ne_dataH r1 r2 ha hb (by have := hA.units; show A.units + 64 < 9900; exact om80 this) h

theorem eqv_nats : ∀ l m : List Nat, PyData.eqvAll (l.map fun x : Nat => PyData.int (x : Int)) (m.map fun x : Nat => PyData.int (x : Int)) = decide (l = m)
  | [], [] => by simp [PyData.eqvAll]
  | [], _ :: _ => by simp [PyData.eqvAll]
  | _ :: _, [] => by simp [PyData.eqvAll]
  | a :: r, b :: t => by
    simp only [List.map_cons, PyData.eqvAll, PyData.eqv, eqv_nats r t]
    by_cases h : a = b <;> by_cases h' : r = t <;> simp [h, h'] <;> exact om79 h
theorem canLay_map {α : Type} (f : α → PyData) : ∀ l : List α, (∀ x ∈ l, (f x).canLay0 = true) → PyData.canLayAll0 (l.map f) = true
  | [], _ => rfl
  | a :: r, h => by
    rw [List.map_cons, PyData.canLayAll0, h a List.mem_cons_self, canLay_map f r fun x hx => h x (List.mem_cons_of_mem _ hx)]; rfl
theorem depth_map {α : Type} (f : α → PyData) (d : Nat) : ∀ l : List α, (∀ x ∈ l, (f x).depth ≤ d) → PyData.depthAll (l.map f) ≤ d
  | [], _ => Nat.zero_le _
  | a :: r, h => by
    rw [List.map_cons, PyData.depthAll]
    exact Nat.max_le.mpr ⟨h a List.mem_cons_self, depth_map f d r fun x hx => h x (List.mem_cons_of_mem _ hx)⟩

/-- and, in a test -/
theorem t_and2 {x y : Expr} {pos : Pos} {whole : Sem Value} {Q : Bool → Shared → Prop}
    (h : wpAny (model prog w) A (isTrue x env (eval x env)) (fun c s' => if c = true then wpAny (model prog w) A (isTrue y env (eval y env)) Q E s' else Q false s') E s) :
    wpAny (model prog w) A (isTrue (.BoolOp .And [x, y] pos) env whole) Q E s := by
  refine isTrue_and (wpAny_mono h (fun c s' h' => ?_) fun _ _ e => e)
  cases c with
  | false => exact h'
  | true =>
    simp only [if_true] at h' ⊢
    refine isTrue_and (wpAny_mono h' (fun c s' h' => ?_) fun _ _ e => e)
    cases c with
    | false => exact h'
    | true => exact isTrue_and_nil h'
theorem t_or2 {x y : Expr} {pos : Pos} {whole : Sem Value} {Q : Bool → Shared → Prop}
    (h : wpAny (model prog w) A (isTrue x env (eval x env)) (fun c s' => if c = true then Q true s' else wpAny (model prog w) A (isTrue y env (eval y env)) Q E s') E s) :
    wpAny (model prog w) A (isTrue (.BoolOp .Or [x, y] pos) env whole) Q E s := by
  refine isTrue_or (wpAny_mono h (fun c s' h' => ?_) fun _ _ e => e)
  cases c with
  | true => exact h'
  | false =>
    simp only [Bool.false_eq_true, if_false] at h' ⊢
    refine isTrue_or (wpAny_mono h' (fun c s' h' => ?_) fun _ _ e => e)
    cases c with
    | true => exact h'
    | false => exact isTrue_or_nil h'
end
end

section
namespace Rx
open Builtin Builtin.Re
set_option maxRecDepth 100000
theorem slot_search : Slot "re.Pattern" "search" "re.Pattern.search" :=
  .of (owner := "re.Pattern") (n := "search") (by rw [typeLookup_type, builtinLookup_eq_fast]; kernel_rfl) (by decide +kernel) (by decide +kernel) (by decide +kernel)
    (by first | exact .inl (by decide +kernel) | exact .inr (by decide +kernel)) (by rw [isSubtype_type]; kernel_rfl)
theorem entry_search : entryFor table "re.Pattern.search" = some Builtin.«re.Pattern.search» := entryFor_of_fast (by kernel_rfl)
theorem args_search (a b : Value) : argsOk "re.Pattern.search" ⟨[a, b], []⟩ := by unfold argsOk; kernel_rfl
theorem plainAttrs_rx : PlainAttrs "re.Pattern" :=
  ⟨⟨"object.__getattribute__", by rw [typeLookup_type, builtinLookup_eq_fast]; kernel_rfl, by decide +kernel⟩, by rw [typeLookup_type, builtinLookup_eq_fast]; kernel_rfl⟩

def chkN : Sem (Option Sre.M) → Bool
  | .pure none => true
  | .rule _ k => chkN (k ())
  | _ => false
theorem chkN_wp {M : Model} {A : Around} {E : Value → Shared → Prop} {s : Shared} {Q : Option Sre.M → Shared → Prop} (h : Q none s) (m : Sem (Option Sre.M)) (e : chkN m = true) : wpAny M A m Q E s := by
  induction m with
  | pure a => cases a with
    | none => exact wpAny_pure h
    | some _ => exact nomatch e
  | rule tag k ih => exact fun Γ p hΓ => ih () e Γ p hΓ
  | _ => exact nomatch e
def nameCode : Array Nat := #[14, 10, 4, 1, 1, 22, 0, 31, 16, 127, 0, 13, 7, 22, 0, 31, 16, 127, 0, 1]
def valCode : Array Nat := #[14, 14, 4, 1, 1, 9, 4294966783, 0, 0, 2147483648, 0, 0, 0, 0, 0, 13, 11, 9, 4294966783, 0, 0, 2147483648, 0, 0, 0, 0, 0, 1]
def quietFor (code : Array Nat) (x : PySem.Str) : Bool := chkN (reRunToEnd (Sre.forSearch code x.cps 0 0 x.cps.size false))
section
variable {prog : Program} {w : World} {A : Around} {E : Value → Shared → Prop} {s : Shared}
theorem c_search {pa ca : Addr} {px x : PySem.Str} {pt t : Tok} {fl : Value} {items : Array Value} {n : Nat} {code : Array Nat} {Q : Value → Shared → Prop}
    (hp : s.heap.get? pa = some { cls := .type "re.Pattern", data := .fields #[.str px pt, fl, .int 0 0, .none, .none, .ref ca, .int 0 0] }) (hc : s.heap.get? ca = some { cls := .type "tuple", data := .seq items n })
    (he : (items.map reRawOf).map (·.toNat) = code) (hq : quietFor code x = true) (hx : x.cps.size < 100) (h : Q .none s) :
    wpAny (model prog w) A (call (.builtin "re.Pattern.search") [.ref pa, .str x t]) Q E s := by
  have hT : s.TypeIs (.ref pa) "re.Pattern" := ⟨_, hp, rfl⟩
  refine wpAny_call (codeAny_call_builtin slot_search.plain entry_search (slot_search.check _ _ _ _ _ _ _ _ hT (args_search _ _) ?_))
  have hN : reNamed "re.Pattern.search" "search" ["string", "pos", "endpos"] 1 [Value.str x t] [] = (pure [some (.str x t), none, none] : Sem (List (Option Value))) := by rfl
  have hR : reTarget "re.Pattern.search" "search" ⟨[.ref pa, .str x t], []⟩ = (do
      let [some string, pos?, lim?] ← reNamed "re.Pattern.search" "search" ["string", "pos", "endpos"] 1 [Value.str x t] [] | unsupported "internal:re:named"
      let pos ← match pos? with | some v => reSsize v | none => pure 0
      let lim ← match lim? with | some v => reSsize v | none => pure (2 ^ 63 - 1)
      let fs ← fieldsOf (.ref pa)
      let (text, kind) ← reTextOf string
      let want := reRawNat (fs.getD 6 .none)
      if want == 0 && kind == 1 then raiseError "TypeError" "cannot use a string pattern on a bytes-like object"
      if want == 1 && kind == 0 then raiseError "TypeError" "cannot use a bytes pattern on a string-like object"
      reNoCollectionInside string kind
      let clip (i : Int) : Nat := min i.toNat text.size
      pure { pattern := .ref pa, string, code := (← reRawItems (fs.getD 5 .none)).map (·.toNat), text, kind, groups := reRawNat (fs.getD 2 .none), pos := clip pos, lim := clip lim }) := by rfl
  show wpAny _ _ (reTarget "re.Pattern.search" "search" ⟨[.ref pa, .str x t], []⟩ >>= fun t => reAnswer t (Sre.forSearch t.code t.text t.groups t.pos t.lim false)) _ _ s
  rw [hR, hN]
  refine wpAny_bind (wpAny_bind (wpAny_pure ?_))
  refine wpAny_bind (wpAny_pure ?_)
  refine wpAny_bind (wpAny_pure ?_)
  refine wpAny_bind (wpAny_fieldsOf hp rfl ?_)
  refine wpAny_bind (m := reTextOf (.str x t)) ?_
  have hE : reTextOf (.str x t) = (pure (x.cps, 0) : Sem _) := by rfl
  rw [hE]
  refine wpAny_pure ?_
  refine wpAny_bind (wpAny_pure ?_)
  show wpAny _ _ ((seqItems? (.ref ca) >>= fun r => pure ((r.getD #[]).map reRawOf)) >>= fun items => pure _) _ _ s
  refine wpAny_bind (wpAny_bind (wpAny_seqItems hc rfl (wpAny_pure ?_)))
  refine wpAny_pure ?_
  have e1 : min (((2 : Int) ^ 63 - 1).toNat) x.cps.size = x.cps.size := Nat.min_eq_right (Nat.le_trans (Nat.le_of_lt hx) (by decide))
  have e2 : min ((0 : Int).toNat) x.cps.size = 0 := Nat.zero_min _
  dsimp only
  rw [show (Array.getD #[Value.str px pt, fl, Value.int 0 0, Value.none, Value.none, Value.ref ca, Value.int 0 0] 2 Value.none) = Value.int 0 0 from rfl, show reRawNat (.int 0 0) = 0 from rfl, show (some items).getD #[] = items from rfl, e1, e2, he]
  unfold reAnswer
  unfold quietFor at hq
  refine wpAny_bind (chkN_wp ?_ _ hq)
  exact wpAny_pure h
theorem m_search {pa : Addr} {o : Obj} {pl : Sem Bool} {Q : Value × List Value → Shared → Prop} (hp : s.heap.get? pa = some o) (hc : o.cls = .type "re.Pattern") (hd : o.dict = none) (h : Q (.builtin "re.Pattern.search", [.ref pa]) s) :
    wpAny (model prog w) A (getMethod (.ref pa) "search" pl) Q E s :=
  getMethod_builtin ⟨o, hp, hc⟩ plainAttrs_rx slot_search (by rfl) (fun a e => by cases e; exact ⟨o, hp, hd⟩) h
end
end Rx
end

section
section
variable {prog : Program} {w : World} {A : Around} {E : Value → Shared → Prop} {c : Cx} {g : Gs} {K : KP} {own rest : Own} {s : Shared} {env : Env} {L : Addr} {names gn : List Str} {vals : List (Option Value)} {GL BL : List (Str × Value)} {KF : Frag}

/-- all but the frame stand -/
theorem St.reframe {P : Pr} {m : Mm} (S : St c g K ((L, P) :: rest) s) (hL : c.h0.objs.size ≤ L) {h' : Heap} (tk : Nat) (hk : ∀ b o, b ≠ L → s.heap.get? b = some o → h'.get? b = some o) (hn : h'.Ns L m) :
    St c g K ((L, NsO m) :: rest) { s with heap := h', toks := tk } := by
  have nd := S.nd
  simp only [List.map_cons, List.nodup_cons] at nd
  obtain ⟨oL, eL, pL⟩ := of_ns hn
  refine ⟨S.le, S.new, fun b o h => hk _ _ (S.sep b o h _ List.mem_cons_self) (S.kept b o h), fun b o h hb => hk _ _ ?_ (S.base b o h hb), Nat.le_of_lt (Nat.lt_of_le_of_lt hL (Heap.lt_size eL)), fun q hq => ?_, fun q hq => ?_, fun b o h q hq => ?_, S.nd, S.gens, S.os⟩
  · rintro rfl
    exact absurd (Heap.lt_size h) (Nat.not_lt.mpr hL)
  · rcases List.mem_cons.mp hq with rfl | hq'
    · exact ⟨oL, eL, pL⟩
    · obtain ⟨o, e, x⟩ := S.owned q (List.mem_cons_of_mem _ hq')
      exact ⟨o, hk _ _ (fun h => nd.1 (by rw [← h]; exact List.mem_map_of_mem (f := (·.1)) hq')) e, x⟩
  · rcases List.mem_cons.mp hq with rfl | hq'
    · exact S.ownNew (L, P) List.mem_cons_self
    · exact S.ownNew q (List.mem_cons_of_mem _ hq')
  · rcases List.mem_cons.mp hq with rfl | hq'
    · exact S.sep b o h (L, P) List.mem_cons_self
    · exact S.sep b o h q (List.mem_cons_of_mem _ hq')

abbrev emptyD : Obj := { cls := .type "dict", data := .dict #[] }
/-- for a, b in d.items(): d is empty -/
theorem for_items0 {x xk xv : Str} {px pk pv pt pos apos cpos : Pos} {k : Nat} {body : List Stmt} {d : Addr} {Q : Flow → Shared → Prop} (S : St c g K ((L, FrO names vals) :: rest) s) (hL : c.h0.objs.size ≤ L) (hh : A.handled = none) (he : EnvF env L names gn)
    (hx : Ix names vals x (.ref d)) (hxk : env.kindOf xk = some .local) (hxv : env.kindOf xv = some .local) (hd : (d, fun o => o = emptyD) ∈ rest) (hdS : (d == sysModules) = false) (hline : (apos.endLine == cpos.line) = true)
    (hQ : ∀ s', St c g K ((L, FrO names vals) :: rest) s' → Q .next s')
    (hbase : attributeBase (.Name x px) "items" env (eval (.Name x px) env) = eval (.Name x px) env := by rfl)
    (hs : ∀ v, foldedSetIterable (.Call (.Attribute (.Name x px) "items" apos) [] [] cpos) env v = pure v := by intro _; rfl) :
    wpAny (model prog w) A (exec (.For (.Tuple [.Name xk pk, .Name xv pv] k pt) (.Call (.Attribute (.Name x px) "items" apos) [] [] cpos) body [] pos) env) Q E s := by
  obtain ⟨o, ho, rfl⟩ := S.owned (d, fun o => o = emptyD) (List.mem_cons_of_mem _ hd)
  have hm : s.heap.DictAt (strKind prog w) d [] 0 := ⟨emptyD, #[], ho, ⟨rfl, rfl, rfl⟩, rfl, (fun e he => by simp at he), .nil, List.nodup_nil⟩
  have hdL : d ≠ L := by
    have nd := S.nd
    simp only [List.map_cons, List.nodup_cons] at nd
    rintro rfl
    exact nd.1 (List.mem_map_of_mem (f := (·.1)) hd)
  have hn : s.heap.Ns env.locals (vm names vals) := by rw [he.loc]; exact S.ns
  refine wpAny_For (wpAny_Call_items (knd := strKind prog w) (kvs := []) hdS hm.dictOf hbase hline (fun Q' q => ev_loc S he hx q) ?_) hs
  refine wpAny_pyIter_items (knd := strKind prog w) (d := d) (kvs := []) (ep := 0) ⟨_, Heap.get?_push_size _ rfl, rfl, rfl⟩ (hm.push _) ?_
  have hsz : (s.heap.push { cls := .type "dict_items", data := .fields #[.ref d] }).objs.size = s.heap.objs.size + 1 := Heap.size_push ..
  have hLs := S.lt (p := (L, FrO names vals)) List.mem_cons_self
  have hds := S.lt (p := (d, fun o => o = emptyD)) (List.mem_cons_of_mem _ hd)
  have hLs : L < s.heap.objs.size := hLs
  have hds : d < s.heap.objs.size := hds
  refine codeAny_forLoop_items_locals (knd := strKind prog w) (R := fun r s' => match r with | .ok f => Q f s' | .error e => cameBackBy (model prog w) A env E e s') (kvs := []) hh hxk hxv (by rw [he.kind]; rfl) ?_ (by rw [he.loc]; exact hdL) ?_
    (Heap.get?_push_size _ rfl) ((hm.push _).push _) ((hn.push _).push _) (fun _ m => m = vm names vals) rfl (fun i k v key m₁ s₁ h => by simp at h) fun h' tk m' hn' hJ hk => ?_
  · show (s.heap.push _).objs.size ≠ env.locals
    rw [hsz, he.loc]; exact Nat.ne_of_gt (Nat.lt_succ_of_lt hLs)
  · show d ≠ (s.heap.push _).objs.size
    rw [hsz]; exact Nat.ne_of_lt (Nat.lt_succ_of_lt hds)
  · subst hJ
    rw [he.loc] at hn' hk
    refine hQ _ (S.reframe hL tk (fun b o hb e => ?_) hn')
    have hlt := Heap.lt_size e
    refine hk b o hb ?_ (Heap.get?_push_of_some _ (Heap.get?_push_of_some _ e))
    show b ≠ (s.heap.push _).objs.size
    rw [hsz]; exact Nat.ne_of_lt (Nat.lt_succ_of_lt hlt)

/-- for x in xs: xs is owned and empty -/
theorem for_ls0 {target : Expr} {x : Str} {px pos : Pos} {body : List Stmt} {a : Addr} {Q : Flow → Shared → Prop} (S : St c g K ((L, FrO names vals) :: rest) s) (hL : c.h0.objs.size ≤ L) (hh : A.handled = none) (he : EnvF env L names gn)
    (hx : Ix names vals x (.ref a)) (ha : (a, LpO []) ∈ rest)
    (hQ : ∀ s', St c g K ((L, FrO names vals) :: rest) s' → Q .next s')
    (hs : ∀ v, foldedSetIterable (.Name x px) env v = pure v := by intro _; rfl) :
    wpAny (model prog w) A (exec (.For target (.Name x px) body [] pos) env) Q E s := by
  have hl : s.heap.IsList a #[] := S.listAt (List.mem_cons_of_mem _ ha)
  have hlt : a < s.heap.objs.size := S.lt (p := (a, LpO [])) (List.mem_cons_of_mem _ ha)
  refine wpAny_For (ev_loc S he hx ?_) hs
  refine wpAny_pyIter_list hl ?_
  have W := Walks.list (prog := prog) (w := w) (A := A) hh s.heap.objs.size a (Nat.ne_of_lt hlt) #[]
  have S' := S.alloc (P := fun _ => True) { cls := .type "list_iterator", data := .fields #[.ref a, .int 0 0] } trivial rfl s.toks
  refine codeAny_forLoop_any (fun _ s' => s' = { s with heap := s.heap.push { cls := .type "list_iterator", data := .fields #[.ref a, .int 0 0] } }) ?_ 0 rfl
  rintro n s' rfl
  refine W.done _ _ _ ⟨⟨_, Heap.get?_push_size _ rfl, rfl, rfl⟩, hl.push _⟩ fun h' tk hk => ?_
  exact wpAny_execs_nil (hQ _ (St.walkEnd S' tk S.size hL hk))

theorem ev_none {k : Nat} {pos : Pos} {Q : Value → Shared → Prop} (h : Q .none s) : wpAny (model prog w) A (eval (.Constant .none k pos) env) Q E s := fun _ _ _ => h

theorem c_type {v : Value} {T : String} {Q : Value → Shared → Prop} (hx : s.TypeIs v T) (hnb : (Value.type T == Value.type "builtin_function_or_method") = false) (hq : Q (.type T) s) : wpAny (model prog w) A (call (.type "type") [v]) Q E s := call_type_of hx hnb hq
theorem c_join1 {a : Addr} {x y : Str} {t u : Tok} {Q : Value → Shared → Prop} (S : St c g K own s) (ha : (a, LpO [.str y u]) ∈ own) (hok : JoinOk x [y] = true) (h : ∀ t s', St c g K own s' → Q (.str (Txt.join x [y]) t) s') :
    wpAny (model prog w) A (call (.builtin "str.join") [.str x t, .ref a]) Q E s :=
  SC.join (l := [(y, u)]) (S.listAt ha) rfl hok fun t' k => h _ _ (S.toks _)
end
end

section
/-- the def stands at a, its code at cd -/
def FunX (K : KP) (a : Addr) (f : Fd) (dV kV : Value) (cd : Addr) : Prop :=
  ∃ doc pm an ct d sl co vs t, K a ⟨.type "function", d, .func (fnOf f.name f.qual f.P f.B f.S dV kV doc pm an (.ref cd) ct), sl⟩ ∧ K cd co ∧ co.data = .fields vs ∧ vs[1]? = some (.str f.qual t)
theorem FunX.mono {K K' : KP} {a cd : Addr} {f : Fd} {dV kV : Value} (h : FunX K a f dV kV cd) (l : Le K K') : FunX K' a f dV kV cd := by
  obtain ⟨doc, pm, an, ct, d, sl, co, vs, t, h1, h2, h3⟩ := h
  exact ⟨doc, pm, an, ct, d, sl, co, vs, t, l _ _ h1, l _ _ h2, h3⟩
def cellOwn (f : Fd) (bs : List (Str × Value)) (cs : List (Str × Addr)) : Own := cs.map fun p => (p.2, CellO (bindC (fun x => f.S.names.lookup x) bs (fun _ => none) p.1))

section
variable {prog : Program} {w : World} {A : Around} {E : Value → Shared → Prop} {c : Cx} {g : Gs} {K : KP} {own rest : Own} {s : Shared} {env : Env} {L : Addr} {names gn : List Str} {vals : List (Option Value)} {GL BL : List (Str × Value)}

theorem code_funX {a cd : Addr} {f : Fd} {args : Args} {bs : List (Str × Value)} {n : Nat} {dV kV : Value} {R : Result → Shared → Prop} (cf : Nat → List (Str × Addr))
    (S : St c g K own s) (hF : FunX K a f dV kV cd) (hG : GB K GL BL) (hA : AOk A (n + 1)) (hS : ScopeOkC f.S names gn)
    (hb : ∀ doc pm an ct, BindsTo s (fnOf f.name f.qual f.P f.B f.S dV kV doc pm an (.ref cd) ct) args bs)
    (hvm : ∀ y, bindL (fun x => f.S.names.lookup x) bs (fun _ => none) y = vm names vals y)
    (hcf : ∀ n, cellsFrom n f.S.names [] = cf n) (hlk : ∀ n p, p ∈ cf n → (cf n).lookup p.1 = some p.2)
    (hk : ∀ n, ∀ x ∈ bs, f.S.names.lookup x.1 = some .local ∨ (f.S.names.lookup x.1 = some .cell ∧ ((cf n).lookup x.1).isSome = true))
    (h : ∀ L env s₁ A' (N : Flow → Shared → Prop), c.h0.objs.size ≤ L → AOk A' n → EnvF env L names gn → env.cells = cf (L + 1) → env.scope = f.S → env.code = .ref cd → env.qual = f.qual ++ ".<locals>." →
      St c g K ((L, FrO names vals) :: (cellOwn f bs (cf (L + 1)) ++ own)) s₁ →
      (∀ fl s', R (.ok (.ret (match fl with | .ret v => v | _ => .none))) s' → N fl s') → wpAny (model prog w) A' (execs f.B env) N (fun _ _ => False) s₁) :
    codeAny (model prog w) A (.call (.ref a) args) R s := by
  obtain ⟨doc, pm, an, ct, d, sl, co, vs, t, h1, h2, h3, h4⟩ := hF
  obtain ⟨og, ob, ol, mg, mb, ml, _, _, _, _, hol, hml, hlim, _⟩ := hG
  have lim : s.heap.NoLimit := ⟨ml, ns_of ⟨_, S.kept _ _ hol, hml⟩, hlim⟩
  refine codeAny_call_function hA.room (S.kept _ _ h1) rfl hS.plain.1 hS.plain.2 rfl ⟨cd, co, vs, t, rfl, S.kept _ _ h2, h3, h4⟩ ?_
  refine hb _ _ _ _ _ _ _ _ ?_
  refine wpAny_newFunctionEnv_cells hS.kind (fun x hx => by rw [hcf]; exact hk _ x hx) (fun env he s' x => ?_)
  have hkind : env.kindOf = fun x => f.S.names.lookup x := by rw [he]; rfl
  have hcells : env.cells = cf (s.heap.objs.size + 1) := by rw [he]; exact hcf _
  have hloc : env.locals = s.heap.objs.size := by rw [he]; rfl
  rw [hkind] at x
  have keep := x.toInCall.keep
  have above : ∀ p ∈ cf (s.heap.objs.size + 1), s.heap.objs.size < p.2 := fun p hp => by
    have := x.above p.1 p.2 (by rw [hcells]; exact hp)
    rwa [hloc] at this
  have S1 : St c g K ((s.heap.objs.size, FrO names vals) :: (cellOwn f bs (cf (s.heap.objs.size + 1)) ++ own)) s' := by
    have hns : (fun y => bindL (fun x => f.S.names.lookup x) bs (fun _ => none) y) = vm names vals := funext hvm
    have hN := x.toInCall.ns
    rw [hloc] at hN
    have hN' : s'.heap.Ns s.heap.objs.size (vm names vals) := by rw [← hns]; exact hN
    obtain ⟨h₁, tk, hsame⟩ := x.toInCall.same
    refine ⟨S.le, S.new, fun b o h => keep _ _ (S.kept _ _ h), fun b o h hb => keep _ _ (S.base _ _ h hb), ?_, fun p hp => ?_, fun p hp => ?_, fun b o h p hp => ?_, ?_, by rw [hsame]; exact S.gens, by rw [hsame]; exact S.os⟩
    · obtain ⟨o, e, _⟩ := of_ns hN'
      exact Nat.le_trans S.size (Nat.le_of_lt (Heap.lt_size e))
    · rcases List.mem_cons.mp hp with rfl | hp
      · exact of_ns hN'
      rcases List.mem_append.mp hp with hp | hp
      · obtain ⟨q, hq, rfl⟩ := List.mem_map.mp hp
        obtain ⟨o, e, d⟩ := x.cell q.1 q.2 (by rw [hcells]; exact hlk _ _ hq)
        exact ⟨o, e, d⟩
      · obtain ⟨o, e, y⟩ := S.owned p hp
        exact ⟨o, keep _ _ e, y⟩
    · rcases List.mem_cons.mp hp with rfl | hp
      · exact .inr S.size
      rcases List.mem_append.mp hp with hp | hp
      · obtain ⟨q, hq, rfl⟩ := List.mem_map.mp hp
        exact .inr (Nat.le_trans S.size (Nat.le_of_lt (above q hq)))
      · exact S.ownNew p hp
    · have hlt := Heap.lt_size (S.kept b o h)
      rcases List.mem_cons.mp hp with rfl | hp
      · exact Nat.ne_of_lt hlt
      rcases List.mem_append.mp hp with hp | hp
      · obtain ⟨q, hq, rfl⟩ := List.mem_map.mp hp
        exact Nat.ne_of_lt (Nat.lt_trans hlt (above q hq))
      · exact S.sep b o h p hp
    · have ap := x.apart
      rw [hcells] at ap
      rw [List.map_cons, List.nodup_cons, List.map_append]
      refine ⟨fun hm => ?_, List.nodup_append.mpr ⟨?_, S.nd, fun u hu v hv => ?_⟩⟩
      · rcases List.mem_append.mp hm with hm | hm
        · obtain ⟨q, hq, e⟩ := List.mem_map.mp hm
          obtain ⟨r, hr, rfl⟩ := List.mem_map.mp hq
          have e : r.2 = s.heap.objs.size := e
          exact absurd (above r hr) (by rw [e]; exact Nat.lt_irrefl _)
        · obtain ⟨q, hq, e⟩ := List.mem_map.mp hm
          have := S.lt hq
          rw [show q.1 = s.heap.objs.size from e] at this
          exact Nat.lt_irrefl _ this
      · unfold cellOwn
        rw [List.map_map]
        exact List.pairwise_map.mpr ap
      · obtain ⟨q, hq, rfl⟩ := List.mem_map.mp hu
        obtain ⟨r, hr, rfl⟩ := List.mem_map.mp hq
        obtain ⟨q', hq', rfl⟩ := List.mem_map.mp hv
        have := S.lt hq'
        exact Nat.ne_of_gt (Nat.lt_trans this (above r hr))
  refine ⟨lim.keeps keep, codeAny_func ?_⟩
  have hE : EnvF env s.heap.objs.size names gn := by
    rw [he]
    exact ⟨hS.kind, rfl, rfl, rfl, hS.nd, hS.all, hS.gall⟩
  exact wpAny_mono (h _ env _ _ _ S.size (hA.deeper _) hE hcells (by rw [he]; rfl) (by rw [he]; rfl) (by rw [he]; rfl) S1 fun _ _ q => q) (fun _ _ x => x) fun _ _ x => x.elim
end
end

section
/-- the table of a code's inner codes -/
def TabO : Pr := fun o => ∃ ps, o = tabObj ps ∧ TriplesOk ps.toList
inductive BMK (K : KP) : Prop
  | mk (bm : Addr) (ob og : Obj) (mg : Mm) (k1 : K mainGlobals og) (k2 : NsO mg og) (k3 : mg "__builtins__" = some (.ref bm)) (k4 : bm ≠ builtinsNs) (k5 : K bm ob) (k6 : ob.cls = .type "module") (k7 : ob.dict = some builtinsNs) (k8 : ob.data = .plain)
theorem BMK.mono {K K' : KP} (h : BMK K) (l : Le K K') : BMK K' := by
  obtain ⟨bm, ob, og, mg, a, b, c, d, e, f1, f2, f3⟩ := h
  exact ⟨bm, ob, og, mg, l _ _ a, b, c, d, l _ _ e, f1, f2, f3⟩

/-- all stand but those of wr -/
theorem St.movedTo {c : Cx} {g : Gs} {K : KP} {own own' : Own} {s s' : Shared} {wr : List Addr} {G : Array GenState → Array GenState → Prop} (S : St c g K own s) (hm : Moved wr G s s') (hw : ∀ b ∈ wr, c.h0.objs.size ≤ b) (hwK : ∀ b ∈ wr, ∀ o, ¬ K b o)
    (hs : ∀ p ∈ own', p ∈ own ∧ p.1 ∉ wr) (hnd : (own'.map (·.1)).Nodup) (hz : c.h0.objs.size ≤ s'.heap.objs.size) : St c s'.gens K own' s' :=
  ⟨S.le, S.new, fun b o h => hm.heap b o (fun hb => hwK b hb o h) (S.kept b o h), fun b o h hb => hm.heap b o (fun hw' => absurd (Heap.lt_size h) (Nat.not_lt.mpr (hw b hw'))) (S.base b o h hb), hz,
   fun p hp => let ⟨o, e, x⟩ := S.owned p (hs p hp).1; ⟨o, hm.heap _ _ (hs p hp).2 e, x⟩, fun p hp => S.ownNew p (hs p hp).1, fun b o h p hp => S.sep b o h p (hs p hp).1, hnd, rfl, hm.os.trans S.os⟩

theorem GenAt.move {prog : Program} {w : World} {A : Around} {a : Addr} {g : Nat} {C : Addr} {fp wr : List Addr} {pz : Nat → Bool} {n₀ : Nat} {F : Nat → Value → Prop} {j : Nat} {s s' : Shared}
    (x : GenAt prog w A a g C fp wr pz n₀ F j s) (hk : ∀ b ∈ a :: C :: fp, ∀ o, s.heap.get? b = some o → s'.heap.get? b = some o) (hg : s'.gens = s.gens) (hl : s'.heap.NoLimit) : GenAt prog w A a g C fp wr pz n₀ F j s' := by
  obtain ⟨⟨o, nm, qn, ho, r⟩, _, gs, hgs, hgo⟩ := x
  exact ⟨⟨o, nm, qn, hk a List.mem_cons_self _ ho, r⟩, hl, gs, by rw [hg]; exact hgs, fun s'' hal => hgo s'' fun b hb o e => hal b hb o (hk b (List.mem_cons_of_mem _ hb) o e)⟩

section
variable {prog : Program} {w : World} {A : Around} {E : Value → Shared → Prop} {c : Cx} {g : Gs} {K : KP} {own rest : Own} {s : Shared} {env : Env} {L : Addr} {names gn : List Str} {vals : List (Option Value)} {mv : Mm} {GL BL : List (Str × Value)}

theorem nolim (S : St c g K own s) (hG : GB K GL BL) : s.heap.NoLimit := by
  obtain ⟨og, ob, ol, mg, mb, ml, _, _, _, _, hol, hml, hlim, _⟩ := hG
  exact ⟨ml, ns_of ⟨_, S.kept _ _ hol, hml⟩, hlim⟩

theorem St.setGens {g' : Gs} (S : St c g K own s) : St c g' K own { s with gens := g' } :=
  ⟨S.le, S.new, S.kept, S.base, S.size, S.owned, S.ownNew, S.sep, S.nd, rfl, S.os⟩
/-- the generator a, its frame C and its iterator I, stand ready -/
def GenRun (prog : Program) (w : World) (A : Around) (c : Cx) (g : Gs) (K : KP) (n : Nat) (F : Nat → Value → Prop) (a C I : Addr) (oa oC oI : Obj) : Prop :=
  ∀ own s, St c g K own s → (a, fun o => o = oa) ∈ own → (C, fun o => o = oC) ∈ own → (I, fun o => o = oI) ∈ own →
    ∃ fp gi StW n' P', n' = n ∧ (∀ j y, P' j y → F j y) ∧ WalksS prog w A.in4 a fp [C, I] (GenOnlyQ gi) n' P' StW ∧ StW 0 s ∧ (∀ i s', StW i s' → s'.TypeIs (.ref a) "generator") ∧ a ∈ fp ∧ (∀ b ∈ fp, b < s.heap.objs.size)

theorem ps_all {n : Nat} {F : Nat → Value → Prop} (W : List Nat) (h : W = passing (fun _ => true) n 0) : W.length = n ∧ ∀ j : Nat, ∀ y, (∃ i, W[j]? = some i ∧ F i y) → F j y := by
  have e : W = List.range n := by rw [h]; unfold passing; simp
  refine ⟨by rw [e]; simp, fun j y hj => ?_⟩
  obtain ⟨i, hi, hF⟩ := hj
  rw [e] at hi
  have : i = j := by
    have := List.getElem?_eq_some_iff.mp hi
    obtain ⟨h1, h2⟩ := this
    simpa using h2.symm
  subst this; exact hF

open Classical in
set_option maxHeartbeats 1000000 in
theorem gx_make {elt iter : Expr} {x : Str} {px : Pos} {scope : Scope} {pos : Pos} {v : Value} {ds : List PyData} {Pt cd : Addr} {n0 : Nat} {F : Nat → Value → Prop} {Q : Value → Shared → Prop}
    (S : St c g K ((L, NsO mv) :: rest) s) (hm : (Pt, TabO) ∈ rest) (hA : AOk A n0) (he : EnvF env L names gn) (hG : GB K GL BL) (hB : BMK K) (hcode : env.code = .ref cd)
    (hcd : ∀ h : Heap, (∀ b o, K b o → h.get? b = some o) → CodeHd h cd Pt) (hv : Rd K v (.list ds)) (hit : ∀ (Q' : Value → Shared → Prop), Q' v s → wpAny (model prog w) A (eval iter env) Q' E s)
    (hco : scope.isCoroutine = false) (hclos : closureFor scope env = pure []) (hcell : ∀ y ∈ scope.names, y.2 ≠ .cell) (h0 : scope.names.lookup (".0" : Str) = some NameKind.local) (hx : scope.names.lookup x = some .local) (hkind : scope.kind = .function)
    (hq : ∀ (A' : Around) (E' : Value → Shared → Prop) (i : Nat) y d (s₂ : Shared) m₂ (C : Addr) (code : Value), A'.handled = none → ds[i]? = some d → Rd K y d → s₂.heap.Ns C m₂ → m₂ x = some y → (∀ b o, K b o → s₂.heap.get? b = some o) →
      wpAny (model prog w) A' (eval elt (genEnv scope [] C code builtinsNs env)) (fun z s₃ => F i z ∧ Keeps s₂ s₃) E' s₂)
    (hQ : ∀ a C I oa oC oI gs s', gs.bare = true → c.h0.objs.size ≤ C → c.h0.objs.size ≤ I → St c (g.push gs) K ((L, NsO mv) :: (a, fun o => o = oa) :: (C, fun o => o = oC) :: (I, fun o => o = oI) :: rest) s' → GenRun prog w A c (g.push gs) K ds.length F a C I oa oC oI → Q (.ref a) s')
    (hs : ∀ x, genFold iter env x = pure x := by intro _; rfl) :
    wpAny (model prog w) A (eval (.GeneratorExp elt [⟨.Name x px, iter, [], 0⟩] scope pos) env) Q E s := by
  refine notnot fun hGoal => ?_
  obtain ⟨l, ol, vs, nn, rfl, kl, hlc, hld, r⟩ : ∃ l o vs n, v = .ref l ∧ K l o ∧ o.cls = .type "list" ∧ o.data = .seq vs n ∧ RdAll K vs.toList ds := by
    cases hv with
    | list a b c d => exact ⟨_, _, _, _, rfl, a, b, c, d⟩
  cases hB with | mk bm ob og mg k1 k2 k3 k4 k5 k6 k7 k8
  refine hGoal ?_
  clear hGoal
  refine wpAny_GeneratorExp_make hco hclos hcell h0 hkind hA.room (hit _ ?_) hs
  have hvl : vs.size = ds.length := by have := r.length; simpa using this
  have isL : ∀ {own : Own} {g : Gs} {s : Shared}, St c g K own s → s.heap.IsList l vs := fun S => ⟨ol, S.kept _ _ kl, hlc, nn, hld⟩
  have hl := isL S
  refine wpAny_pyIter_list hl ⟨(nolim S hG).push _, ?_⟩
  -- the state with the iterator
  have S1 : St c g K ((L, NsO mv) :: (s.heap.objs.size, fun o => o = { cls := .type "list_iterator", data := .fields #[.ref l, .int 0 0] }) :: rest) { s with heap := s.heap.push { cls := .type "list_iterator", data := .fields #[.ref l, .int 0 0] } } :=
    S.alloc (P := fun o => o = { cls := .type "list_iterator", data := .fields #[.ref l, .int 0 0] }) { cls := .type "list_iterator", data := .fields #[.ref l, .int 0 0] } rfl rfl s.toks
  generalize hI : s.heap.objs.size = I at S1
  have hlI : l ≠ I := by
    obtain ⟨_, e, _⟩ := hl
    rw [← hI]; exact Nat.ne_of_lt (Heap.lt_size e)
  generalize hs1 : ({ s with heap := s.heap.push { cls := .type "list_iterator", data := .fields #[.ref l, .int 0 0] } } : Shared) = s1 at S1 ⊢
  have hIz : c.h0.objs.size ≤ I := by rw [← hI]; exact S.size
  clear hs1 S hl
  refine notnot fun hGoal => ?_
  obtain ⟨oT, hoT, ps, rfl, hps⟩ := S1.owned (Pt, TabO) (List.mem_cons_of_mem _ (List.mem_cons_of_mem _ hm))
  refine hGoal ?_
  clear hGoal
  have hch := hcd s1.heap S1.kept
  -- the code
  have hcodeStep : ∀ (Q1 : Value → Shared → Prop), (∀ code s2, St c g K ((L, NsO mv) :: (I, fun o => o = { cls := .type "list_iterator", data := .fields #[.ref l, .int 0 0] }) :: rest) s2 → Q1 code s2) →
      wpAny (model prog w) A (genexprCode env pos (env.qual ++ "<genexpr>") scope) Q1 E s1 := by
    intro Q1 hQ1
    cases hnf : codeAmong pos ps.toList with
    | none =>
      refine wpAny_genexprCodeX hcode (hch.code hoT hps) (hch.tab hoT) hnf fun c' h' tk hxb hge hlt hc' _ ht' _ => hQ1 _ _ ?_
      have nd := S1.nd
      have hmem : (Pt, TabO) ∈ (L, NsO mv) :: (I, fun o => o = ({ cls := .type "list_iterator", data := .fields #[.ref l, .int 0 0] } : Obj)) :: rest := List.mem_cons_of_mem _ (List.mem_cons_of_mem _ hm)
      have hz : c.h0.objs.size ≤ h'.objs.size := Nat.le_trans S1.size (Nat.le_trans hge (Nat.le_of_lt hlt))
      have hps' : TriplesOk (ps ++ #[rawInt pos.line, rawInt pos.col, .ref c']).toList := by
        have e : (ps ++ #[rawInt pos.line, rawInt pos.col, .ref c']).toList = ps.toList ++ [rawInt pos.line, rawInt pos.col, .ref c'] := by simp
        rw [e]; exact TriplesOk_snoc _ _ _ _ hps
      refine ⟨S1.le, S1.new, fun b o h => hxb b o (S1.sep b o h _ hmem) (S1.kept b o h), fun b o h hb => hxb b o ?_ (S1.base b o h hb), hz, fun p hp => ?_, S1.ownNew, S1.sep, S1.nd, S1.gens, S1.os⟩
      · rintro rfl
        rcases S1.ownNew _ hmem with h' | h'
        · exact hb h'
        · exact absurd (Heap.lt_size h) (Nat.not_lt.mpr h')
      · by_cases e : p.1 = Pt
        · have : p = (Pt, TabO) := by
            have key : ∀ (ow : Own), (ow.map (·.1)).Nodup → p ∈ ow → (Pt, TabO) ∈ ow → p = (Pt, TabO) := by
              intro ow
              induction ow with
              | nil => intro _ h; exact nomatch h
              | cons q r ih =>
                intro nd hp hm
                rw [List.map_cons, List.nodup_cons] at nd
                rcases List.mem_cons.mp hp with h1 | h1
                · rcases List.mem_cons.mp hm with h2 | h2
                  · rw [h1, h2]
                  · exact absurd (by rw [← h1, e]; exact List.mem_map_of_mem (f := (·.1)) h2) nd.1
                · rcases List.mem_cons.mp hm with h2 | h2
                  · exact absurd (by rw [← h2, ← e]; exact List.mem_map_of_mem (f := (·.1)) h1) nd.1
                  · exact ih nd.2 h1 h2
            exact key _ nd hp hmem
          subst this
          exact ⟨_, ht'.2, _, rfl, hps'⟩
        · obtain ⟨o, ho, hP⟩ := S1.owned p hp
          exact ⟨o, hxb _ _ e ho, hP⟩
    | some cv =>
      refine notnot fun hGoal => ?_
      obtain ⟨o, vs', file, tf, flags, tg, inF, text, tt, op, ho, hd, h11, h2, h7, h9, h10, hop, hpd, htr, hne⟩ := hch.code hoT hps
      refine hGoal ?_
      clear hGoal
      unfold genexprCode codeAt
      rw [hcode, if_neg (show ¬ ((Value.ref cd == Value.none) = true) from Bool.false_ne_true)]
      refine wpAny_bind (wpAny_fieldsOf ho hd ?_)
      rw [h11]
      refine wpAny_bind (wpAny_fieldsOf hop hpd ?_)
      rw [hnf]
      exact wpAny_pure (hQ1 _ _ S1)
  refine hcodeStep _ fun code s2 S2 => ?_
  clear hcodeStep S1 hch hoT
  refine wpAny_builtinsFor (m := mg) (bm := bm) (o := ob) (by rw [he.glob]; exact ns_of ⟨_, S2.kept _ _ k1, k2⟩) k3 k4 (S2.kept _ _ k5) k6 k7 k8 ?_
  intro h' hn' hs'
  have hsz : h'.objs.size = s2.heap.objs.size + 1 := by rw [hs'.1, Heap.size_push]
  have keep' : ∀ b o, s2.heap.get? b = some o → h'.get? b = some o := fun b o e => hs'.extBut b o (Nat.ne_of_lt (Heap.lt_size e)) (Heap.get?_push_of_some _ e)
  have hCz : c.h0.objs.size ≤ s2.heap.objs.size := S2.size
  have hmI : (I, fun o => o = ({ cls := .type "list_iterator", data := .fields #[.ref l, .int 0 0] } : Obj)) ∈ (L, NsO mv) :: (I, fun o => o = ({ cls := .type "list_iterator", data := .fields #[.ref l, .int 0 0] } : Obj)) :: rest := by simp
  have hIlt : I < s2.heap.objs.size := S2.lt hmI
  obtain ⟨oC, eC, pC⟩ := of_ns hn'
  generalize hgo : ({ cls := .type "generator", data := .fields #[.int s2.gens.size 0, .str "<genexpr>" (s2.toks + 1), .str (env.qual ++ "<genexpr>") (s2.toks + 1 + 1)] } : Obj) = oa
  generalize hgs : GenState.fresh (.compStart (.GeneratorExp elt [⟨.Name x px, iter, [], 0⟩] scope pos) 0 (.ref I) .none (genEnv scope [] s2.heap.objs.size code builtinsNs env)) = gs
  have hfa : oa.isFreed = false := by rw [← hgo]; rfl
  have keep5 : ∀ b o, s2.heap.get? b = some o → (h'.push oa).get? b = some o := fun b o e => Heap.get?_push_of_some _ (keep' b o e)
  have S3 := S2.grow (h' := h'.push oa) (s2.toks + 1 + 1 + 1) keep5 (by rw [Heap.size_push, hsz]; exact om83)
  have S4 := S3.addOwn (a := s2.heap.objs.size) (P := fun o => o = oC) ⟨oC, Heap.get?_push_of_some _ eC, rfl⟩ hCz (fun q hq => Nat.ne_of_gt (S2.lt hq)) (fun b o hk => Nat.ne_of_lt (S2.Klt hk))
  have hne : ∀ q ∈ (s2.heap.objs.size, fun o => o = oC) :: (L, NsO mv) :: (I, fun o => o = ({ cls := .type "list_iterator", data := .fields #[.ref l, .int 0 0] } : Obj)) :: rest, h'.objs.size ≠ q.1 := by
    intro q hq
    rw [hsz]
    rcases List.mem_cons.mp hq with rfl | hq
    · exact Nat.succ_ne_self _
    · exact Nat.ne_of_gt (Nat.lt_succ_of_lt (S2.lt hq))
  have S5 := S4.addOwn (a := h'.objs.size) (P := fun o => o = oa) ⟨oa, Heap.get?_push_size _ hfa, rfl⟩ (by rw [hsz]; exact Nat.le_succ_of_le hCz) hne (fun b o hk => by rw [hsz]; exact Nat.ne_of_lt (Nat.lt_succ_of_lt (S2.Klt hk)))
  have S6 : St c (g.push gs) K ((L, NsO mv) :: (h'.objs.size, fun o => o = oa) :: (s2.heap.objs.size, fun o => o = oC) :: (I, fun o => o = ({ cls := .type "list_iterator", data := .fields #[.ref l, .int 0 0] } : Obj)) :: rest)
      { s2 with gens := s2.gens.push gs, toks := s2.toks + 1 + 1 + 1, heap := h'.push oa } := by
    have := S5.perm (own' := (L, NsO mv) :: (h'.objs.size, fun o => o = oa) :: (s2.heap.objs.size, fun o => o = oC) :: (I, fun o => o = ({ cls := .type "list_iterator", data := .fields #[.ref l, .int 0 0] } : Obj)) :: rest)
      (((List.Perm.swap _ _ _).trans ((List.Perm.swap _ _ _).cons _)))
    have := this.setGens (g' := s2.gens.push gs)
    rw [S2.gens] at this
    rw [S2.gens]
    exact this
  refine hQ h'.objs.size s2.heap.objs.size I oa oC _ gs _ (by rw [← hgs]; rfl) hCz hIz S6 ?_
  intro own s S ha hC hI'
  have hKC : ∀ b o, K b o → b ∈ I :: (List.range s2.heap.objs.size).filter (fun b => decide (∃ o, K b o)) := fun b o h => List.mem_cons_of_mem _ (List.mem_filter.mpr ⟨List.mem_range.mpr (S2.Klt h), decide_eq_true ⟨o, h⟩⟩)
  have hKI : ∀ b o, K b o → b ≠ I := fun b o h => S2.sep b o h _ hmI
  have hfp : ∀ b ∈ I :: (List.range s2.heap.objs.size).filter (fun b => decide (∃ o, K b o)), b < s2.heap.objs.size := by
    intro b hb
    rcases List.mem_cons.mp hb with rfl | hb
    · exact hIlt
    · exact List.mem_range.mp (List.mem_filter.mp hb).1
  have hst : ∃ ost, K cStatics ost := by
    obtain ⟨og, ob, ol, mg, mb, ml, _, _, _, _, hol, _⟩ := hG
    exact ⟨_, hol⟩
  obtain ⟨ost, kst⟩ := hst
  have haf : h'.objs.size ∉ I :: (List.range s2.heap.objs.size).filter (fun b => decide (∃ o, K b o)) := fun h => by
    have := hfp _ h
    rw [hsz] at this
    exact absurd this (by exact om82)
  have hCf : s2.heap.objs.size ∉ I :: (List.range s2.heap.objs.size).filter (fun b => decide (∃ o, K b o)) := fun h => Nat.lt_irrefl _ (hfp _ h)
  have W := WalksS.genexpQ (prog := prog) (w := w) (A := A.in4) hA.handled h'.objs.size s2.gens.size s2.heap.objs.size (I :: (List.range s2.heap.objs.size).filter (fun b => decide (∃ o, K b o))) [I] (fun _ => true) vs.size F (by rw [hsz]; exact Nat.succ_ne_self _) haf
    (fun b hb => by rw [List.mem_singleton.mp hb]; exact List.mem_cons_self) hA.room (hKC _ _ kst) (Nat.ne_of_lt (S2.Klt kst)) (fun h => hKI _ _ kst (List.mem_singleton.mp h))
  have hlI2 : I ≠ l := fun e => hlI e.symm
  have fresh : GenAt prog w A.in4 h'.objs.size s2.gens.size s2.heap.objs.size (I :: (List.range s2.heap.objs.size).filter (fun b => decide (∃ o, K b o))) [I] (fun _ => true) vs.size F 0 { s2 with gens := s2.gens.push gs, toks := s2.toks + 1 + 1 + 1, heap := h'.push oa } := by
    refine GenAt.fresh (A := A.in4) (cenv := genEnv scope [] s2.heap.objs.size code builtinsNs env) (m := fun y => if y = ".0" then some (.ref I) else none) (elt := elt) (iter := iter) (x := x) (px := px) (ifs := []) (scope := scope) (pos := pos) (I := I) hA.handled
      (fun A' hA' => (Walks.list hA' I l hlI vs).mono_fp fun b hb => ?_) (fun _ => true) F hx (by simp [genEnv, hkind]) hco hCf ⟨?_, ?_⟩ ⟨oa, _, _, Heap.get?_push_size _ hfa, by rw [← hgo], by rw [← hgo], by rw [← hgo]⟩ (by rw [← hgs]; exact Array.getElem?_push_size ..) ?_ (hn'.push _) ((nolim S2 hG).keeps keep5)
    · rcases List.mem_cons.mp hb with rfl | hb
      · exact List.mem_cons_self
      · rw [List.mem_singleton.mp hb]; exact hKC _ _ kl
    · intro A' E' i v s₂ m₂ _ _ _ _ _
      rw [List.forIn_nil]
      exact wpAny_pure ⟨rfl, s₂.heap, s₂.toks, rfl, fun _ _ e => e⟩
    · intro A' E' i y s₂ m₂ hA' hy _ hns hmx hk
      have hi : i < ds.length := by
        have := (Array.getElem?_eq_some_iff.mp hy).1
        rw [hvl] at this; exact this
      obtain ⟨y', hy', ry⟩ := r.get (i := i) (d := ds[i]) (by simp [hi])
      have : y' = y := by
        have e : vs[i]? = some y' := by simpa using hy'
        rw [e] at hy; exact Option.some.inj hy
      subst this
      exact hq A' E' i y' ds[i] s₂ m₂ _ _ hA' (by simp [hi]) ry hns hmx fun b o hb => hk b (hKC _ _ hb) (fun h => hKI _ _ hb (List.mem_singleton.mp h)) o (keep5 _ _ (S2.kept _ _ hb))
    · obtain ⟨oi, ei, pi⟩ := S2.owned _ hmI
      have pi : oi = { cls := .type "list_iterator", data := .fields #[.ref l, .int 0 0] } := pi
      subst pi
      exact ⟨⟨_, keep5 _ _ ei, rfl, rfl⟩, ⟨ol, keep5 _ _ (S2.kept _ _ kl), hlc, nn, hld⟩⟩
  have mv : ∀ b ∈ h'.objs.size :: s2.heap.objs.size :: I :: (List.range s2.heap.objs.size).filter (fun b => decide (∃ o, K b o)), ∀ o, (h'.push oa).get? b = some o → s.heap.get? b = some o := by
    intro b hb o e
    have same : ∀ (q : Addr) (oq : Obj), (q, fun o => o = oq) ∈ own → (h'.push oa).get? q = some oq → b = q → s.heap.get? b = some o := by
      rintro q oq hmq hq rfl
      obtain ⟨o', e', p'⟩ := S.owned _ hmq
      have p' : o' = oq := p'
      have e : (h'.push oa).get? b = some o := e
      rw [hq] at e
      rw [← Option.some.inj e, ← p']; exact e'
    rcases List.mem_cons.mp hb with hb | hb
    · exact same _ oa ha (Heap.get?_push_size _ hfa) hb
    rcases List.mem_cons.mp hb with hb | hb
    · exact same _ oC hC (Heap.get?_push_of_some _ eC) hb
    rcases List.mem_cons.mp hb with hb | hb
    · obtain ⟨oi, ei, pi⟩ := S2.owned _ hmI
      have pi : oi = { cls := .type "list_iterator", data := .fields #[.ref l, .int 0 0] } := pi
      subst pi
      exact same _ _ hI' (keep5 _ _ ei) hb
    · obtain ⟨ob', kb⟩ := of_decide_eq_true (List.mem_filter.mp hb).2
      have e1 : (h'.push oa).get? b = some o := e
      rw [keep5 _ _ (S2.kept _ _ kb)] at e1
      rw [← Option.some.inj e1]; exact S.kept _ _ kb
  have hat := Mine.GenAt.move (s' := s) fresh mv (by rw [S.gens, ← S2.gens]) (nolim S hG)
  obtain ⟨p1, p2⟩ := ps_all (n := vs.size) (F := F) _ rfl
  refine ⟨_, _, _, _, _, p1.trans hvl, fun j y h => p2 j y h, W, hat, fun i s' st => st.1.typeIs, List.mem_cons_self, fun b hb => ?_⟩
  have haz : h'.objs.size < s.heap.objs.size := S.lt ha
  rw [hsz] at haz
  rcases List.mem_cons.mp hb with rfl | hb
  · rw [hsz]; exact haz
  rcases List.mem_cons.mp hb with rfl | hb
  · exact Nat.lt_trans (Nat.lt_succ_self _) haz
  · exact Nat.lt_trans (hfp b hb) (Nat.lt_trans (Nat.lt_succ_self _) haz)

theorem c_joinGen {own' : Own} {x : Str} {t : Tok} {texts : List Str} {F : Nat → Value → Prop} {a C I : Addr} {oa oC oI : Obj} {Q : Value → Shared → Prop} (S : St c g K own s) (hR : GenRun prog w A c g K texts.length F a C I oa oC oI)
    (ha : (a, fun o => o = oa) ∈ own) (hC : (C, fun o => o = oC) ∈ own) (hI : (I, fun o => o = oI) ∈ own) (hCz : c.h0.objs.size ≤ C) (hIz : c.h0.objs.size ≤ I)
    (hF : ∀ j y, F j y → ∃ z u, texts[j]? = some z ∧ y = .str z u) (hok : JoinOk x texts = true) (hlen : texts.length ≤ sizeLine) (hown : ∀ p ∈ own', p ∈ own ∧ p.1 ≠ C ∧ p.1 ≠ I) (hnd : (own'.map (·.1)).Nodup) {p0 : Addr × Pr} (hp0 : p0 ∈ own') (hp0z : c.h0.objs.size ≤ p0.1)
    (hgb : AllBare g) (h : ∀ g' u s', AllBare g' → St c g' K own' s' → Q (.str (Txt.join x texts) u) s') :
    wpAny (model prog w) A (call (.builtin "str.join") [.str x t, .ref a]) Q E s := by
  obtain ⟨fp, gi, StW, n', P', hn, hP, W, hst, hT, haf, hfp⟩ := hR own s S ha hC hI
  subst hn
  refine SC.joinGen W.in4_2 hT hst hfp haf (fun i v hv => ?_) (fun s' l hm hit => ?_) hlen
  · obtain ⟨z, u, _, e⟩ := hF i v (hP i v hv)
    exact ⟨z, u, e⟩
  · have hl : l.map (·.1) = texts := by
      refine List.ext_getElem? fun j => ?_
      have hsz : l.length = texts.length := by
        have := hit.1
        simpa [strValues] using this
      by_cases hj : j < l.length
      · have hv := hit.2 j (.str l[j].1 l[j].2) (by simp [strValues, hj])
        obtain ⟨z, u, e1, e2⟩ := hF j _ (hP j _ hv)
        cases e2
        rw [e1]
        simp [hj]
      · rw [List.getElem?_eq_none (by simpa using hj), List.getElem?_eq_none (by exact om81 hsz hj)]
    rw [hl]
    refine ⟨hok, fun t' k => h _ _ _ (hgb.moved (g := gi) ?_) ((St.movedTo S hm (fun b hb => ?_) (fun b hb o hk => ?_) (fun p hp => ⟨(hown p hp).1, fun hb => ?_⟩) hnd ?_).toks k)⟩
    · have := hm.gens
      rw [S.gens] at this
      exact this
    · simp only [List.mem_cons, List.not_mem_nil, or_false] at hb
      rcases hb with rfl | rfl
      · exact hCz
      · exact hIz
    · simp only [List.mem_cons, List.not_mem_nil, or_false] at hb
      rcases hb with rfl | rfl
      · exact S.sep _ o hk _ hC rfl
      · exact S.sep _ o hk _ hI rfl
    · simp only [List.mem_cons, List.not_mem_nil, or_false] at hb
      rcases hb with hb | hb
      · exact (hown p hp).2.1 hb
      · exact (hown p hp).2.2 hb
    · obtain ⟨o, e, _⟩ := S.owned p0 (hown p0 hp0).1
      have hb : p0.1 ∉ [C, I] := by simp [(hown p0 hp0).2.1, (hown p0 hp0).2.2]
      exact Nat.le_trans hp0z (Nat.le_of_lt (Heap.lt_size (hm.heap _ _ hb e)))
end
end

section
section
variable {M : Model} {A : Around} {R : GenEnd} {Y : Protocol} {n : Nat} {s₀ : Shared} {c : Code} {fs : List Frame} {s : Shared} {env : Env}
  {K : Flow → Sem Fin} {H : Value → Sem Fin} {gd : Bool → Bool} {lv : List Value → List Value}

/-- a statement that runs through -/
theorem sg_step {st : Stmt} {rest : List Stmt} (h : wpAny M (A.over c fs) (exec st env) (fun f s' => f = .next ∧ Seg M A R Y n s₀ c ((execs rest env).wrap K H gd lv) fs s') (fun _ _ => False) s) :
    Seg M A R Y n s₀ c ((execs (st :: rest) env).wrap K H gd lv) fs s := by
  refine seg_execs_cons (seg_wrap (wpAny_mono h (fun f s' h' => ?_) fun _ _ x => x.elim))
  obtain ⟨rfl, h'⟩ := h'
  exact h'
theorem sg_If {test : Expr} {body orelse : List Stmt} {pos : Pos}
    (h : wpAny M (A.over c fs) (isTrue test env (eval test env)) (fun b s' => Seg M A R Y n s₀ c ((execs (if b = true then body else orelse) env).wrap K H gd lv) fs s') (fun _ _ => False) s) :
    Seg M A R Y n s₀ c ((exec (.If test body orelse pos) env).wrap K H gd lv) fs s := by
  have e : exec (.If test body orelse pos) env = (standAt pos >>= fun _ => isTrue test env (eval test env) >>= fun b => if b = true then execs body env else execs orelse env) := by rfl
  rw [e]
  refine seg_bind_wrap (wpAny_standAt ?_)
  refine seg_bind_wrap (wpAny_mono h (fun b s' h' => ?_) fun _ _ x => x.elim)
  cases b <;> exact h'
theorem sg_For {target iter : Expr} {body : List Stmt} {pos : Pos}
    (h : wpAny M (A.over c fs) (eval iter env) (fun x s₁ => wpAny M (A.over c fs) (pyIter x) (fun it s₂ => ∀ p, Seg M A R Y n s₀ (.forLoop target it body [] env) (M.den (.forLoop target it body [] env))
      (.ret (fun r => ((match r with | .ok f => (.pure f : Sem Flow) | .error e => .raise e).onRaise fun (x : Value) => do
        if (← field x 1) == Value.none then unsupported "frame.own-activation:exception-without-traceback"
        setFlight x env.frame).wrap K H gd lv) none (gd false) (lv []) c p [] :: fs) s₂) (fun _ _ => False) s₁) (fun _ _ => False) s)
    (hs : ∀ x, foldedSetIterable iter env x = pure x := by intro _; rfl) :
    Seg M A R Y n s₀ c ((exec (.For target iter body [] pos) env).wrap K H gd lv) fs s := by
  rw [exec_For]
  refine seg_bind_wrap (wpAny_standAt ?_)
  refine seg_bind_wrap (wpAny_mono h (fun x s₁ h₁ => ?_) fun _ _ x => x.elim)
  refine seg_bind_wrap (wpAny_of_eq (hs x) ?_)
  refine seg_bind_wrap (wpAny_standAt ?_)
  refine seg_bind_wrap (wpAny_holding (wpAny_mono h₁ (fun it s₂ h₂ => ?_) fun _ _ x => x.elim))
  exact seg_call h₂
theorem sg_ok {fl : Flow} : (fun r : Result => ((match r with | .ok f => (.pure f : Sem Flow) | .error e => .raise e).onRaise fun (x : Value) => do
        if (← field x 1) == Value.none then unsupported "frame.own-activation:exception-without-traceback"
        setFlight x env.frame).wrap K H gd lv) (.ok fl) = K fl := rfl
end
section
variable {prog : Program} {w : World} {A : Around} {R : GenEnd} {Y : Protocol} {n : Nat} {s₀ : Shared} {fs : List Frame} {s : Shared} {env : Env}
theorem sg_forLoop {target : Expr} {it : Value} {body : List Stmt}
    (h : wpAny (model prog w) (A.over (.forLoop target it body [] env) fs) (pyNext it) (fun r s₁ => match r with
        | none => Seg (model prog w) A R Y n s₀ (.forLoop target it body [] env) (.pure (.again (.block [] env))) fs s₁
        | some v => wpAny (model prog w) (A.over (.forLoop target it body [] env) fs) (letOwnedTupleGo target it v) (fun _ s₂ => wpAny (model prog w) (A.over (.forLoop target it body [] env) fs) (assign target env v) (fun _ s₃ =>
          Seg (model prog w) A R Y n s₀ (.forLoop target it body [] env) ((execs body env).wrap (fun f => match f with
            | .next | .cont => .pure (.again (.forLoop target it body [] env))
            | .brk => .pure (.done .next)
            | .ret v => .pure (.done (.ret v))) (fun e => (do noteFrame e env; theTreesLotGoes e : Sem Unit).wrap (fun _ => .raise e) .raise id id) id id) fs s₃) (fun _ _ => False) s₂) (fun _ _ => False) s₁) (fun _ _ => False) s) :
    Seg (model prog w) A R Y n s₀ (.forLoop target it body [] env) ((model prog w).den (.forLoop target it body [] env)) fs s := by
  show Seg _ A R Y n s₀ _ ((forTurn target it body [] env).onRaise (fun x => do noteFrame x env; theTreesLotGoes x)) fs s
  unfold forTurn
  rw [Sem.onRaise_eq_wrap]
  refine seg_bind_wrap (wpAny_standAt ?_)
  rw [Sem.onRaise_eq_wrap, Sem.bind_eq_wrap', Sem.wrap_wrap, Sem.wrap_wrap]
  refine seg_wrap (wpAny_mono h (fun r s₁ h₁ => ?_) fun _ _ x => x.elim)
  cases r with
  | none => exact h₁
  | some v =>
    refine seg_bind_wrap (wpAny_mono h₁ (fun _ s₂ h₂ => ?_) fun _ _ x => x.elim)
    refine seg_bind_wrap (wpAny_mono h₂ (fun _ s₃ h₃ => ?_) fun _ _ x => x.elim)
    rw [Sem.bind_eq_wrap', Sem.wrap_wrap]
    rw [Sem.wrap_congr (execs body env) _ _ (K' := fun f => match f with
            | .next | .cont => .pure (.again (.forLoop target it body [] env))
            | .brk => .pure (.done .next)
            | .ret v => .pure (.done (.ret v))) (H' := (fun e => (do noteFrame e env; theTreesLotGoes e : Sem Unit).wrap (fun _ => .raise e) .raise id id))
        (fun f => by cases f <;> rfl)
        (fun e => by first | exact Sem.bind_eq_wrap _ _ | (show (do noteFrame e env; theTreesLotGoes e : Sem Unit).bind (fun _ => .raise e) = _; rw [Sem.bind_eq_wrap]))]
    exact h₃
theorem sg_block0 {c : Code} (h : Seg (model prog w) A R Y n s₀ (.block [] env) (.pure (.done .next)) fs s) : Seg (model prog w) A R Y n s₀ c (.pure (.again (.block [] env))) fs s := by
  refine seg_again rfl ?_
  exact h
end
end

section
section
variable {prog : Program} {w : World} {A : Around} {E : Value → Shared → Prop} {s : Shared}
/-- next of a generator made by a def: what it leaves is bare -/
theorem next_fn {a : Addr} {g n : Nat} {gs : GenState} {R : GenEnd} {Y : Protocol} {Q : Option Value → Shared → Prop} (hh : A.handled = none) (hl : s.heap.NoLimit) (hroom : A.depth < recursionLimit) (hg : s.heap.IsGen a g) (hgs : s.gens[g]? = some gs)
    (hR : ∀ n s₀ r s₁, R n s₀ r s₁ → r = .ok (.ret .none))
    (hgo : gs.Goes (model prog w) A.in1 R Y n (.send .none) (s.setGen g .running))
    (hY : ∀ v s₁ gs', gs'.bare = true → Y (n - 1) (s.setGen g .running) v s₁ (fun r' s'' => match n with | 0 => False | m + 1 => gs'.Goes (model prog w) A.in1 R Y m r' s'') → Q (some v) (s₁.setGen g gs'))
    (hE : ∀ s₁ r, R n (s.setGen g .running) r s₁ → ∀ h', (∀ b o, s₁.heap.get? b = some o → h'.get? b = some o) → Q none { s₁.setGen g .finished with heap := h' }) :
    wpAny (model prog w) A (pyNext (.ref a)) Q E s := by
  have room : ∀ {Q₁ : Unit → Shared → Prop} {E₁ : Value → Shared → Prop}, Q₁ () s → wpAny (model prog w) A.in1 roomToWake Q₁ E₁ s := fun q => wpAny_roomToWake hl hroom q
  unfold pyNext
  refine wpAny_bind (wpAny_attempt (wpAny_callSpecial?_slot (name := Str.ofString "__next__") hg.typeIs slot_gen_next (wpAny_call_entry slot_gen_next hg.typeIs entry_gen_next ?_ (args_gen_next _))))
  show wpAny _ A.in1 (Builtin.Generator.genWake (.ref a) (.send .none)) _ _ s
  unfold Builtin.Generator.genWake
  refine wpAny_bind (wpAny_holding (wpAny_genNumber hg (wpAny_bind (wpAny_genState hgs ?_))))
  have go : wpAny (model prog w) A.in1 roomToWake (fun _ s' => s' = s) (fun _ _ => False) s := room rfl
  cases gs with
  | running => exact hgo.elim
  | finished => exact hgo.elim
  | _ =>
    refine wpAny_bind (wpAny_mono go (fun _ s' e => ?_) fun _ _ x => x.elim)
    subst e
    show wpAny _ A.in1 (.resume g (.send .none) [] _) _ _ s'
    refine wpAny_resumeQ hgs hgo (fun x s₁ hx => ?_) (fun v s₁ gs' hb hv => ?_)
    · have := hR _ _ _ _ hx
      subst this
      refine wpAny_bind (m := newExc (.type "StopIteration") []) ?_
      simp only [newExc, newTuple]
      refine wpAny_bind (wpAny_newObj_type ?_ (by size_fits))
      refine wpAny_bind (m := firstArgMember _ _) (wpAny_of_eq (a := Value.none) (by first | rfl | (simp only [firstArgMember]; rfl)) ?_)
      refine wpAny_newObj_type ?_ (by size_fits)
      simp only [raiseNew]
      refine wpAny_bind (wpAny_bind (wpAny_handled ?_))
      rw [show A.in1.handled = none from hh]
      refine wpAny_throw ?_
      refine wpAny_bind (wpAny_isInstance (T := "StopIteration") (b := true) ⟨_, Heap.get?_push_size _ rfl, rfl⟩ isSubtype_stop ?_)
      exact wpAny_pure (hE s₁ _ hx _ fun b o hb => Heap.get?_push_of_some _ (Heap.get?_push_of_some _ hb))
    · exact wpAny_pure ⟨v, rfl, wpAny_pure (hY v s₁ gs' hb hv)⟩
end
structure ScopeOkG (S : Scope) (names gn : List Str) : Prop where
  kind : S.kind = .function
  nd : names.Nodup
  all : ∀ x ∈ names, S.names.lookup x = some .local ∧ (x == ("__debug__" : Str)) = false
  gall : ∀ x ∈ gn, S.names.lookup x = some .globalImplicit ∧ (x == ("__debug__" : Str)) = false
  cells : ∀ x ∈ S.names, x.2 ≠ .cell
  plain : S.isCoroutine = false ∧ S.isGenerator = true
/-- a generator object of number g -/
def GnO (g : Nat) (o : Obj) : Prop := o.cls = .type "generator" ∧ ∃ nm qn, o.data = .fields #[.int g 0, nm, qn] ∧ o.slots = #[]
section
variable {prog : Program} {w : World} {A : Around} {E : Value → Shared → Prop} {c : Cx} {g : Gs} {K : KP} {own rest : Own} {s : Shared} {env : Env} {L : Addr} {names gn : List Str} {vals : List (Option Value)} {GL BL : List (Str × Value)}
theorem gen_call {a : Addr} {f : Fd} {args : List Value} {n : Nat} {ps ls : List Str} {R : Result → Shared → Prop}
    (S : St c g K own s) (hF : Fun K a f) (hG : GB K GL BL) (hA : AOk A (n + 1)) (hS : ScopeOkG f.S names gn)
    (hn : names = ps ++ ls) (hv : vals = args.map some ++ ls.map fun _ => none) (hl : ps.length = args.length)
    (hb : ∀ doc pm an cd ct, bindArgs (fnOf f.name f.qual f.P f.B f.S .none .none doc pm an cd ct) ⟨args, []⟩ = pure (ps.zip args))
    (h : ∀ L ag env oa s', c.h0.objs.size ≤ L → L < ag → (∀ b o, K b o → b < L) → (∀ p ∈ own, p.1 < L) → EnvF env L names gn → env.scope = f.S → GnO g.size oa →
      St c (g.push (.fresh (.func f.B env))) K ((ag, fun o => o = oa) :: (L, FrO names vals) :: own) s' → R (.ok (.ret (.ref ag))) s') :
    codeAny (model prog w) A (.call (.ref a) ⟨args, []⟩) R s := by
  refine notnot fun hGoal => ?_
  obtain ⟨doc, pm, an, cd, ct, d, sl, co, vs, t, h1, h2, h3, h4⟩ := hF
  refine hGoal ?_
  clear hGoal
  refine notnot fun hGoal => ?_
  obtain ⟨og, ob, ol, mg, mb, ml, _, _, _, _, hol, hml, hlim, _⟩ := hG
  refine hGoal ?_
  clear hGoal
  have lim : s.heap.NoLimit := ⟨ml, ns_of ⟨_, S.kept _ _ hol, hml⟩, hlim⟩
  have hnd : ps.Nodup := by have := hS.nd; rw [hn] at this; exact (List.nodup_append.mp this).1
  refine codeAny_call_generator hA.room (S.kept _ _ h1) rfl hS.plain.1 hS.plain.2 rfl ⟨cd, co, vs, t, rfl, S.kept _ _ h2, h3, h4⟩ ?_
  rw [hb]
  refine wpAny_pure (wpAny_newFunctionEnv hS.cells (fun x hx => ?_) (fun h' hns hsb => ?_) hS.kind)
  · have : x.1 ∈ ps := by
      refine notnot fun hGoal => ?_
      obtain ⟨i, hi, e⟩ := List.getElem_of_mem hx
      refine hGoal ?_
      clear hGoal
      rw [← e, List.getElem_zip]; exact List.getElem_mem _
    exact (hS.all x.1 (by rw [hn]; exact List.mem_append_left _ this)).1
  refine ⟨lim.fresh _ hsb, ?_⟩
  have hsz : h'.objs.size = s.heap.objs.size + 1 := by rw [hsb.1, Heap.size_push]
  have S0 : St c g K ((s.heap.objs.size, fun _ => True) :: own) { s with heap := s.heap.push { cls := .type "frame", data := .dict #[] }, toks := s.toks } := by
    have z := S.grow (h' := s.heap.push { cls := .type "frame", data := .dict #[] }) s.toks (fun b o e => Heap.get?_push_of_some _ e) (by rw [Heap.size_push]; exact Nat.le_succ _)
    exact z.addOwn ⟨_, Heap.get?_push_size _ rfl, trivial⟩ S.size (fun p hp => Nat.ne_of_gt (S.lt hp)) fun b o hk => Nat.ne_of_lt (S.Klt hk)
  have S1 := S0.turn (s.toks + (ps.zip args).length) (P' := FrO names vals) .here hsb (by
    refine of_ns ?_
    have e : (fun x => List.lookup x (ps.zip args).reverse) = vm names vals := by
      funext x
      rw [hn, hv]; exact lookup_vm ls hnd hl x
    rw [← e]; exact hns)
  generalize ht : (s.toks + (ps.zip args).length) = tk at S1
  have S2 := S1.grow (h' := h'.push { cls := .type "generator", data := .fields #[.int s.gens.size 0, .str f.name tk, .str f.qual (tk + 1)] }) (tk + 1 + 1) (fun b o e => Heap.get?_push_of_some _ e) (by rw [Heap.size_push]; exact Nat.le_succ _)
  have S3 := S2.addOwn (a := h'.objs.size) (P := fun o => o = { cls := .type "generator", data := .fields #[.int s.gens.size 0, .str f.name tk, .str f.qual (tk + 1)] }) ⟨_, Heap.get?_push_size _ rfl, rfl⟩
    (by rw [hsz]; exact Nat.le_succ_of_le S.size) (fun p hp => by
      rw [hsz]
      rcases List.mem_cons.mp hp with rfl | hp
      · exact Nat.succ_ne_self _
      · exact Nat.ne_of_gt (Nat.lt_succ_of_lt (S.lt hp))) (fun b o hk => by rw [hsz]; exact Nat.ne_of_lt (Nat.lt_succ_of_lt (S.Klt hk)))
  have S4 := S3.setGens (g' := s.gens.push (.fresh (.func f.B (envF f s.heap.objs.size a (.ref cd)))))
  refine h s.heap.objs.size h'.objs.size (envF f s.heap.objs.size a (.ref cd)) { cls := .type "generator", data := .fields #[.int s.gens.size 0, .str f.name tk, .str f.qual (tk + 1)] } _ S.size (by rw [hsz]; exact Nat.lt_succ_self _) (fun b o hk => S.Klt hk) (fun p hp => S.lt hp) ⟨hS.kind, rfl, rfl, rfl, hS.nd, hS.all, hS.gall⟩ rfl ⟨rfl, _, _, by rw [S.gens], rfl⟩ ?_
  rw [← S.gens]
  exact S4
end
end

section
section
variable {prog : Program} {w : World} {A : Around} {E : Value → Shared → Prop} {c : Cx} {g : Gs} {K : KP} {own rest : Own} {s : Shared} {env : Env} {L : Addr} {names gn : List Str} {vals : List (Option Value)} {GL BL : List (Str × Value)}
/-- a slice of a list, whatever its text is -/
theorem sl_any {value slice : Expr} {p : Addr × Pr} {a : Addr} {vs : List Value} {vl vu : Value} {lo hi : Option Int} {Q : Value → Shared → Prop} (S : St c g K (p :: rest) s) (hl : s.heap.IsList a vs.toArray) (pl : IsPart vl lo) (pu : IsPart vu hi) (hz : vs.length ≤ 2 ^ 24)
    (h : ∀ d s', St c g K (p :: (d, LpO ((vs.drop (lo.elim 0 (clipAt vs.length))).take (hi.elim vs.length (clipAt vs.length) - lo.elim 0 (clipAt vs.length)))) :: rest) s' → Q (.ref d) s')
    (hs : subscripted slice false (.ref a) (.ref s.heap.objs.size) = operate [.ref s.heap.objs.size, .ref a] (getItem (.ref a) (.ref s.heap.objs.size)) := by with_unfolding_all rfl) :
    wpAny (model prog w) A (subscriptTail value slice (.ref a) (.ref s.heap.objs.size)) Q E { s with heap := s.heap.push { cls := .type "slice", data := .fields #[vl, vu, .none] } } := by
  have S1 := S.alloc (P := fun _ => True) { cls := .type "slice", data := .fields #[vl, vu, .none] } trivial rfl s.toks
  refine tail_any (s := { s with heap := s.heap.push { cls := .type "slice", data := .fields #[vl, vu, .none] } }) (Heap.IsList.typeIs (s := { s with heap := s.heap.push { cls := .type "slice", data := .fields #[vl, vu, .none] } }) (hl.push _)) list_getitem_lookup
    (wpAny_getItem_list_slice (hl.push _) (Heap.IsSliceOf.new ..) pl pu .none (by simp) ?_ (by simpa [sizeLine] using hz)) hs
  have e : ({ cls := .type "list", data := .seq (slicePick vs.toArray lo hi none) } : Obj) = listOf ((vs.drop (lo.elim 0 (clipAt vs.length))).take (hi.elim vs.length (clipAt vs.length) - lo.elim 0 (clipAt vs.length))).toArray 0 := by
    show _ = ({ cls := .type "list", data := .seq _ } : Obj)
    rw [slicePick_plain]; simp
  rw [e]
  refine h _ _ ?_
  have S2 := S1.alloc (P := LpO ((vs.drop (lo.elim 0 (clipAt vs.length))).take (hi.elim vs.length (clipAt vs.length) - lo.elim 0 (clipAt vs.length)))) (listOf ((vs.drop (lo.elim 0 (clipAt vs.length))).take (hi.elim vs.length (clipAt vs.length) - lo.elim 0 (clipAt vs.length))).toArray 0) ⟨0, rfl⟩ rfl s.toks
  exact S2.drop2
end
end

section
/-- what a sort's tree answers under a fixed order -/
def run1 (lt : Nat → Nat → Bool) {α : Type} : KasT α → α
  | .ret a => a
  | .ask i j k => run1 lt (k (lt i j))
def treeOk (n : Nat) : KasT (Array Nat) → Bool
  | .ret p => p.toList.isPerm (List.range n)
  | .ask i j k => decide (i < n) && (decide (j < n) && (treeOk n (k true) && treeOk n (k false)))
set_option maxRecDepth 100000 in
theorem tree5 : treeOk 5 (kas_sort 5) = true := by decide +kernel
set_option maxRecDepth 100000 in
theorem tree6 : treeOk 6 (kas_sort 6) = true := by decide +kernel
theorem treeOk_perm (n : Nat) (lt : Nat → Nat → Bool) : ∀ t : KasT (Array Nat), treeOk n t = true → (run1 lt t).toList.Perm (List.range n)
  | .ret p, h => List.isPerm_iff.mp h
  | .ask i j k, h => by
    simp only [treeOk, Bool.and_eq_true] at h
    show (run1 lt (k (lt i j))).toList.Perm _
    cases lt i j with
    | true => exact treeOk_perm n lt _ h.2.2.1
    | false => exact treeOk_perm n lt _ h.2.2.2
theorem treeOk_congr (n : Nat) {lt lt' : Nat → Nat → Bool} (e : ∀ i j, i < n → j < n → lt i j = lt' i j) : ∀ t : KasT (Array Nat), treeOk n t = true → run1 lt t = run1 lt' t
  | .ret p, h => rfl
  | .ask i j k, h => by
    simp only [treeOk, Bool.and_eq_true, decide_eq_true_eq] at h
    show run1 lt (k (lt i j)) = run1 lt' (k (lt' i j))
    rw [e i j h.1 h.2.1]
    cases lt' i j with
    | true => exact treeOk_congr n e _ h.2.2.1
    | false => exact treeOk_congr n e _ h.2.2.2
theorem treeOk_wp (n : Nat) {lt : Nat → Nat → Bool} {cmp : Nat → Nat → (Bool → Shared → Prop) → Shared → Prop} {s : Shared} {Q : Array Nat → Shared → Prop}
    (hc : ∀ i j (C : Bool → Shared → Prop), i < n → j < n → C (lt i j) s → cmp i j C s) : ∀ t : KasT (Array Nat), treeOk n t = true → Q (run1 lt t) s → t.kasWp cmp Q s
  | .ret p, _, h => h
  | .ask i j k, ht, h => by
    simp only [treeOk, Bool.and_eq_true, decide_eq_true_eq] at ht
    refine hc i j _ ht.1 ht.2.1 ?_
    have h : Q (run1 lt (k (lt i j))) s := h
    show (k (lt i j)).kasWp cmp Q s
    generalize lt i j = b at h
    cases b with
    | true => exact treeOk_wp n hc _ ht.2.2.1 h
    | false => exact treeOk_wp n hc _ ht.2.2.2 h
section
variable {prog : Program} {w : World} {A : Around} {E : Value → Shared → Prop} {c : Cx} {g : Gs} {K : KP} {own rest : Own} {s : Shared}
theorem St.alloc0 (S : St c g K own s) (o : Obj) {P : Pr} (hP : P o) (hf : o.isFreed = false) (tk : Nat) : St c g K ((s.heap.objs.size, P) :: own) { s with heap := s.heap.push o, toks := tk } := by
  have S' := S.grow (h' := s.heap.push o) tk (fun b o' e => Heap.get?_push_of_some _ e) (by rw [Heap.size_push]; exact Nat.le_succ _)
  exact S'.addOwn (a := s.heap.objs.size) (P := P) ⟨o, Heap.get?_push_size _ hf, hP⟩ S.size (fun q hq => Nat.ne_of_gt (S.lt hq)) (fun b o' hk => Nat.ne_of_lt (S.Klt hk))
theorem u_lp {M : Model} {a : Addr} {xs ys : List Value} {f : Array Value → Array Value} {own' : Own} {Q : Unit → Shared → Prop} (S : St c g K own s) (hu : OwnUp own a (LpO xs) (LpO ys) own') (e : f xs.toArray = ys.toArray) (hx : xs.length ≤ 1000) (hy : ys.length ≤ 1000)
    (h : ∀ s', St c g K own' s' → Q () s') : wpAny M A (Builtin.List.listUpdate (.ref a) f) Q E s := by
  refine notnot fun hGoal => ?_
  obtain ⟨o, ho, n, rfl⟩ := S.owned _ hu.mem
  refine hGoal ?_
  clear hGoal
  refine listUpdate_at ho rfl (h _ (S.turn s.toks hu (Heap.SameBut.update ..) ⟨_, get?_update_seq ho f, _, by rw [e]⟩)) (by rw [List.size_toArray, sizeLine_eq]; exact om100 hx) (by rw [e, List.size_toArray, sizeLine_eq]; exact om99 hy)
theorem i_lp {M : Model} {a : Addr} {xs : List Value} {Q : Array Value → Shared → Prop} (S : St c g K own s) (hm : (a, LpO xs) ∈ own) (h : Q xs.toArray s) : wpAny M A (Builtin.List.listItems (.ref a)) Q E s := by
  refine notnot fun hGoal => ?_
  obtain ⟨o, ho, n, rfl⟩ := S.owned _ hm
  refine hGoal ?_
  clear hGoal
  exact listItems_at ho rfl h
/-- list(range(n)) within sorted -/
theorem collect_rng {r : Addr} {n : Nat} {Q : List Value → Shared → Prop} (S : St c g K own s) (hA : A.handled = none) (hr : Rng K r 0 n) (hn : n < 64)
    (h : ∀ (vs : List Value) s', vs.length = n → (∀ (i : Nat), i < n → ∃ t, vs[i]? = some (.int (i : Int) t)) → St c g K own s' → Q vs s') : wpAny (model prog w) A (collect (.ref r)) Q E s := by
  refine notnot fun hGoal => ?_
  obtain ⟨t, u, v, hk⟩ := hr
  refine hGoal ?_
  clear hGoal
  have hr0 := S.kept _ _ hk
  have hsz : Builtin.Range.rangeSize 0 (n : Int) 1 = (n : Int) := by
    rw [rangeSize_one]
    split <;> omega
  unfold collect
  refine wpAny_bind (wpAny_runValue (codeAny_builtin entry_proto_collect' ?_))
  show wpAny _ _ (do again (.builtin "list.__iadd__" ⟨[← newList [], .ref r], []⟩)) _ _ s
  refine wpAny_bind (wpAny_newList (wpAny_pure ⟨Code.quiet_builtin _ (by decide +kernel), codeAny_builtin entry_list_iadd' ?_⟩))
  show wpAny _ _ (Builtin.List.listExtendWith (.ref s.heap.objs.size) (.ref r) (.ref s.heap.objs.size)) _ _ { s with heap := s.heap.push (seqObj "list" #[] 0) }
  refine wpAny_extend_range (A := A) (R := fun r s' => match r with
    | .ok (.ret v) => wpAny (model prog w) A (match v with
      | .ref a => do
        let o ← load a
        match o.data with
        | .seq xs _ => pure xs.toList
        | _ => unsupported "internal:collect"
      | _ => unsupported "internal:collect") Q E s'
    | .ok _ => False
    | .error e => E e s') (s := { s with heap := s.heap.push (seqObj "list" #[] 0) }) (n := n) hA (Heap.get?_push_of_some _ hr0) (small_one (by exact om98) (by exact om97) (by exact om96) (by exact om95 hn)) hsz (by exact om94 hn) s.heap.objs.size (.ref s.heap.objs.size) 0 (Heap.get?_push_size _ rfl) fun h' tk acc' c' keep hS' items => ?_
  show wpAny (model prog w) A (do
      let o ← load s.heap.objs.size
      match o.data with
      | .seq xs _ => pure xs.toList
      | _ => unsupported "internal:collect") Q E { s with heap := h', toks := tk }
  refine wpAny_bind (wpAny_load hS' ?_)
  show wpAny _ _ (pure acc'.toList) Q E _
  refine wpAny_pure (h _ _ (by rw [Array.length_toList]; exact items.1) (fun i hi => ?_) (S.grow tk (fun b o e => keep b o (Nat.ne_of_lt (Heap.lt_size e)) (Heap.get?_push_of_some _ e)) (Nat.le_of_lt (Heap.lt_size hS'))))
  have hi' : i < acc'.size := by rw [items.1]; exact hi
  obtain ⟨t, e⟩ := items.2 i acc'[i] (by simp [hi'])
  refine ⟨t, ?_⟩
  have : (0 : Int) + (i : Int) * 1 = (i : Int) := by exact om93
  rw [this] at e
  simp [hi', e]
def ExO (o : Obj) : Pr := fun x => x = o
theorem lp_pin {a : Addr} {xs : List Value} {r' : Own} (S : St c g K ((a, LpO xs) :: r') s) : ∃ n, St c g K ((a, ExO (seqObj "list" xs.toArray n)) :: r') s := by
  refine notnot fun hGoal => ?_
  obtain ⟨o, ho, n, rfl⟩ := S.owned _ List.mem_cons_self
  refine hGoal ?_
  clear hGoal
  refine ⟨n, ?_⟩
  exact S.turn (h' := s.heap) s.toks .here ⟨rfl, fun _ _ => rfl⟩ ⟨_, ho, rfl⟩
set_option maxHeartbeats 1000000 in
/-- sorted(range(n), key=f) -/
theorem c_sortKey {f : Value} {r : Addr} {n : Nat} {I : Nat → KP → List Value → Prop} {lt : Nat → Nat → Bool} {kw : List (Str × Value)} {Q : Value → Shared → Prop}
    (S : St c g K own s) (hA : A.handled = none) (hr : Rng K r 0 n) (h2 : 2 ≤ n) (h64 : n < 64) (htree : treeOk n (kas_sort n) = true)
    (ha1 : argsOk "sorted" ⟨[.ref r], kw⟩) (ha2 : ∀ x, argsOk "list.sort" ⟨[.ref x], kw⟩) (ht : ∀ x, Builtin.«list.sort» ⟨[.ref x], kw⟩ = ksk_tree x f false) (h0 : I 0 K [])
    (turn : ∀ (j : Nat) t K' ks s' own1, j < n → Le K K' → I j K' ks → St c g K' (own1 ++ own) s' →
      wpAny (model prog w) A.in1.in1 (call f [.int (j : Nat) t]) (fun k s'' => ∃ K'', Le K' K'' ∧ I (j + 1) K'' (ks ++ [k]) ∧ St c g K'' (own1 ++ own) s'') (fun _ _ => False) s')
    (kind : ∀ K' (ks : List Value) s' own1, Le K K' → ks.length = n → I n K' ks → St c g K' (own1 ++ own) s' → ∃ κ, (∀ Q' : SortKind → Shared → Prop, Q' κ s' → wpAny (model prog w) A.in1.in1 (keyKind' ks.toArray) Q' (fun _ _ => False) s') ∧
      ∀ i j (C : Bool → Shared → Prop), i < n → j < n → C (lt i j) s' → wpAny (model prog w) A.in1.in1 (keyLt' κ (ks.getD i .none) (ks.getD j .none)) C (fun _ _ => False) s')
    (h : ∀ D s' K' (vs : List Value), Le K K' → vs.length = n → (∀ (i : Nat), i < n → ∃ t, vs[i]? = some (.int (i : Int) t)) → St c g K' ((D, LpO ((run1 lt (kas_sort n)).toList.map fun i => vs.getD i .none)) :: own) s' → Q (.ref D) s') :
    wpAny (model prog w) A (call (.builtin "sorted") [.ref r] kw) Q E s := by
  refine call_function_entry_kw kind_sorted plain_sorted entry_sorted ha1 ?_
  unfold Builtin.«sorted»
  refine wpAny_bind (m := checkCount "sorted" 1 1 _) (wpAny_pure ?_)
  refine wpAny_bind (collect_rng S hA hr h64 fun vs s hlen hvs S => ?_)
  refine wpAny_bind (wpAny_newList ?_ (by rw [sizeLine_eq]; exact om92 h64 hlen))
  have SD := S.alloc0 (P := LpO vs) (seqObj "list" vs.toArray 0) ⟨0, rfl⟩ rfl s.toks
  generalize hD : s.heap.objs.size = D at SD ⊢
  clear S
  have S := SD
  clear SD
  have hT : (({ s with heap := s.heap.push (seqObj "list" vs.toArray 0), toks := s.toks } : Shared)).TypeIs (.ref D) "list" := by
    refine notnot fun hGoal => ?_
    obtain ⟨o, ho, n', rfl⟩ := S.owned _ List.mem_cons_self
    refine hGoal ?_
    clear hGoal
    exact ⟨_, ho, rfl⟩
  generalize hs1 : ({ s with heap := s.heap.push (seqObj "list" vs.toArray 0), toks := s.toks } : Shared) = s1 at S hT
  refine wpAny_bind (wpAny_holding ?_)
  refine wpAny_call_entry_kw slot_list_sort hT entry_list_sort ?body (ha2 _)
  case body =>
    have ht' := ht D
    show wpAny (model prog w) A.in1.in1 (Builtin.«list.sort» ⟨[.ref D], kw⟩) _ _ _
    rw [ht']
    unfold ksk_tree
    refine wpAny_bind (i_lp S List.mem_cons_self ?_)
    refine wpAny_bind (u_lp (ys := []) S .here rfl (by exact om84 h64 hlen) (by simp) fun s1 S => ?_)
    obtain ⟨e1, S⟩ := lp_pin S
    have hD1 : s1.heap.get? D = some (seqObj "list" #[] e1) := by
      refine notnot fun hGoal => ?_
      obtain ⟨o, ho, rfl⟩ := S.owned _ List.mem_cons_self
      refine hGoal ?_
      clear hGoal
      exact ho
    refine wpAny_bind (seqEpoch_at hD1 rfl ?_)
    refine wpAny_bind (wpAny_newTuple ?_ (by rw [sizeLine_eq]; simp; exact om92 h64 hlen))
    have S := (S.alloc0 (P := fun _ => True) { cls := .type "tuple", data := .seq vs.toArray.toList.toArray } trivial rfl s1.toks).drop0
    generalize ({ s1 with heap := s1.heap.push { cls := .type "tuple", data := .seq vs.toArray.toList.toArray }, toks := s1.toks } : Shared) = s2 at S
    refine wpAny_bind (wpAny_newList ?_ (Nat.zero_le _))
    have S := S.alloc0 (P := LpO []) (seqObj "list" #[] 0) ⟨0, rfl⟩ rfl s2.toks
    generalize hkS : s2.heap.objs.size = kS at S ⊢
    refine wpAny_holding ?_
    show wpAny (model prog w) _ _ _ _ ({ s2 with heap := s2.heap.push (seqObj "list" #[] 0), toks := s2.toks } : Shared)
    generalize ({ s2 with heap := s2.heap.push (seqObj "list" #[] 0), toks := s2.toks } : Shared) = s3 at S ⊢
    clear hT hs1 hkS hD1
    unfold ksk_rest
    refine wpAny_bind (wpAny_rule ?_)
    rw [List.forIn_toArray]
    refine wpAny_bind (ksk_fold (fun i s' => ∃ K' ks, Le K K' ∧ I i K' ks ∧ ks.length = i ∧ St c g K' ((kS, LpO ks) :: (D, ExO (seqObj "list" #[] e1)) :: own) s') vs 0 s3 ⟨K, [], Le.refl _, h0, rfl, S⟩ ?step ?done)
    case step =>
      rintro j x s' hx ⟨K', ks, hle, hI, hks, S⟩
      simp only [Nat.zero_add] at hI hks ⊢
      have hj : j < vs.length := (List.getElem?_eq_some_iff.mp hx).1
      obtain ⟨t, e⟩ := hvs j (by exact om19 hlen hj)
      rw [e] at hx
      rw [← Option.some.inj hx]
      refine wpAny_bind (wpAny_attempt (wpAny_mono (turn j t K' ks s' [(kS, LpO ks), (D, ExO (seqObj "list" #[] e1))] (by exact om19 hlen hj) hle hI S) (fun k s'' he => ?_) fun _ _ hF => hF.elim))
      refine notnot fun hGoal => ?_
      obtain ⟨K'', hle2, hI2, S2⟩ := he
      refine hGoal ?_
      clear hGoal
      dsimp only
      refine wpAny_bind (u_lp (ys := ks ++ [k]) S2 .here (by simp) (by exact om91 h64 hlen hks hj) (by rw [List.length_append, List.length_singleton]; exact om90 h64 hlen hks hj) fun s'' S => ?_)
      exact wpAny_pure ⟨rfl, K'', ks ++ [k], hle.trans hle2, hI2, by rw [List.length_append, List.length_singleton, hks], S⟩
    case done =>
      rintro s' ⟨K', ks, hle, hI, hks, S⟩
      rw [Nat.zero_add] at hI hks
      (try dsimp only)
      refine wpAny_bind (i_lp S List.mem_cons_self ?_)
      refine notnot fun hGoal => ?_
      obtain ⟨κ, hκ, hlt⟩ := kind K' ks s' [(kS, LpO ks), (D, ExO (seqObj "list" #[] e1))] hle (by exact om89 hlen hks) (by rw [← hlen]; exact hI) S
      refine hGoal ?_
      clear hGoal
      unfold ksk_end
      dsimp only
      rw [if_neg Bool.false_ne_true, if_neg Bool.false_ne_true, if_neg (by rw [List.size_toArray]; exact om88 h2 hlen), if_neg (by rw [List.size_toArray]; exact om88 h2 hlen)]
      refine wpAny_bind (wpAny_mono (hκ (fun κ' s'' => κ' = κ ∧ s'' = s') ⟨rfl, rfl⟩) (fun κ' s'' hk => ?_) fun _ _ x => x.elim)
      obtain ⟨rfl, rfl⟩ := hk
      refine wpAny_bind (wpAny_mono (kat_run (Q := fun st' s3 => (arrOf st').map (·.2) = List.toArray ((run1 lt (kas_sort n)).toList.map fun i => vs.getD i Value.none) ∧ failedOf st' = none ∧ s3 = s'') (G := fun p s3 => p = run1 lt (kas_sort n) ∧ s3 = s'')
        hks (by exact om87 h2 hlen) (by exact om86 h64 hlen) (fun p st' s3 a1 a2 a3 a4 => ⟨by rw [← a4.1]; exact kat_snds hks a2, a3, a4.2⟩) ?_) (fun r s3 hr => ?_) fun _ _ x => x)
      · rw [hlen]
        exact treeOk_wp n hlt _ htree ⟨rfl, rfl⟩
      obtain ⟨r0, st'⟩ := r
      refine notnot fun hGoal => ?_
      obtain ⟨a1, a2, rfl⟩ := hr
      refine hGoal ?_
      clear hGoal
      dsimp only at a1 a2 ⊢
      have hol : ((run1 lt (kas_sort n)).toList.map fun i => vs.getD i Value.none).length = n := by
        rw [List.length_map, (treeOk_perm n lt _ htree).length_eq, List.length_range]
      unfold ksk_tail
      (try dsimp only)
      rw [a1]
      refine wpAny_bind (u_lp (ys := []) S .here rfl (by exact om85 h64 hlen hks) (by simp) fun s4 S => ?_)
      refine wpAny_bind (wpAny_letGo ?_)
      have hD2 : s4.heap.get? D = some (seqObj "list" #[] e1) := by
        refine notnot fun hGoal => ?_
        obtain ⟨o, ho, rfl⟩ := S.owned (D, ExO (seqObj "list" #[] e1)) (List.mem_cons_of_mem _ List.mem_cons_self)
        refine hGoal ?_
        clear hGoal
        exact ho
      refine wpAny_bind (seqEpoch_at hD2 rfl ?_)
      have S : St c g K' ((kS, LpO []) :: (D, LpO []) :: own) s4 := S.weak (.there .here) fun o h => ⟨e1, h⟩
      refine wpAny_bind (u_lp (ys := (run1 lt (kas_sort n)).toList.map fun i => vs.getD i Value.none) S (.there .here) (by rw [if_neg Bool.false_ne_true]) (by simp) (by exact om84 h64 hol) fun s5 S => ?_)
      rw [a2]
      simp only [bne_self_eq_false, Bool.false_eq_true, if_false]
      refine wpAny_pure ⟨_, rfl, ?_⟩
      exact wpAny_pure ⟨_, rfl, h D s5 K' vs hle hlen hvs S.drop0⟩
end
end

section
section
variable {prog : Program} {w : World} {A : Around} {E : Value → Shared → Prop} {c : Cx} {g : Gs} {K : KP} {own rest : Own} {s : Shared} {env : Env} {L : Addr} {names gn : List Str} {vals : List (Option Value)} {GL BL : List (Str × Value)}
/-- all stand but a, and there is more -/
theorem St.turnX {a : Addr} {P P' : Pr} {own' : Own} (S : St c g K own s) {h' : Heap} (tk : Nat) (hu : OwnUp own a P P' own')
    (hx : Heap.ExtBut a s.heap h') (hz : s.heap.objs.size ≤ h'.objs.size) (ho : ∃ o, h'.get? a = some o ∧ P' o) : St c g K own' { s with heap := h', toks := tk } := by
  have hin : ∀ p ∈ own', ∃ q ∈ own, q.1 = p.1 := by
    intro p hp
    have : p.1 ∈ own.map (·.1) := by rw [← hu.adr]; exact List.mem_map_of_mem hp
    refine notnot fun hGoal => ?_
    obtain ⟨q, hq, e⟩ := List.mem_map.mp this
    refine hGoal ?_
    clear hGoal
    exact ⟨q, hq, e⟩
  refine ⟨S.le, S.new, fun b o h => hx b o (S.sep b o h _ hu.mem) (S.kept b o h), fun b o h hb => hx b o ?_ (S.base b o h hb), Nat.le_trans S.size hz, fun p hp => ?_, fun p hp => ?_, fun b o hb p hp => ?_, by rw [hu.adr]; exact S.nd, S.gens, S.os⟩
  · rintro rfl
    rcases S.ownNew _ hu.mem with h' | h'
    · exact hb h'
    · exact absurd (Heap.lt_size h) (Nat.not_lt.mpr h')
  · rcases hu.parts S.nd p hp with rfl | ⟨hp', hne⟩
    · exact ho
    · refine notnot fun hGoal => ?_
      obtain ⟨o, e, x⟩ := S.owned p hp'
      refine hGoal ?_
      clear hGoal
      exact ⟨o, hx _ _ hne e, x⟩
  · refine notnot fun hGoal => ?_
    obtain ⟨q, hq, e⟩ := hin p hp
    refine hGoal ?_
    clear hGoal
    rw [← e]; exact S.ownNew q hq
  · refine notnot fun hGoal => ?_
    obtain ⟨q, hq, e⟩ := hin p hp
    refine hGoal ?_
    clear hGoal
    rw [← e]; exact S.sep b o hb q hq
/-- a lambda stands at f -/
def LamAt (K : KP) (f : Addr) (qual : Str) (params : Arguments) (body : Expr) (scope : Scope) (clos : List (Str × Addr)) : Prop :=
  ∃ pm ctv c' oc vs t, K f (kla_obj "<lambda>" qual params body scope clos pm c' ctv) ∧ K c' oc ∧ oc.data = .fields vs ∧ vs[1]? = some (.str qual t)
theorem lam_make {params : Arguments} {body : Expr} {scope : Scope} {pos : Pos} {clos : List (Str × Addr)} {Pt cd : Addr} {ps : Array Value} {own' : Addr → Own} {Q : Value → Shared → Prop}
    (S : St c g K own s) (he : EnvF env L names gn) (hB : BMK K) (hu : ∀ c', OwnUp own Pt (ExO (tabObj ps)) (ExO (tabObj (ps ++ #[rawInt pos.line, rawInt pos.col, .ref c']))) (own' c')) (hcode : env.code = .ref cd)
    (hcd : ∀ h : Heap, (∀ b o, K b o → h.get? b = some o) → CodeHd h cd Pt) (ht : TriplesOk ps.toList) (hnf : codeAmong pos ps.toList = none)
    (hdef : defaultsOf params env = ([], [])) (hcl : closureFor scope env = pure clos)
    (h : ∀ f c' s' K', Le K K' → LamAt K' f (env.qual ++ "<lambda>") params body scope clos → St c g K' (own' c') s' → Q (.ref f) s') :
    wpAny (model prog w) A (eval (.Lambda params body scope pos) env) Q E s := by
  refine notnot fun hGoal => ?_
  obtain ⟨bm, ob, og, mg, k1, k2, k3, k4, k5, k6, k7, k8⟩ := hB
  refine hGoal ?_
  clear hGoal
  have hoP : s.heap.get? Pt = some (tabObj ps) := by
    refine notnot fun hGoal => ?_
    obtain ⟨o, ho, rfl⟩ := S.owned _ (hu 0).mem
    refine hGoal ?_
    clear hGoal
    exact ho
  have hne : ∀ b o, K b o → b ≠ Pt := fun b o k => S.sep b o k _ (hu 0).mem
  have hg := S.kept _ _ k1
  refine kla_eval hdef (kla_makeFunction (mg := mg) hcl he.glob (ns_of ⟨_, hg, k2⟩) hcode (hcd _ S.kept) hoP ht hnf (hne _ _ k1) ⟨bm, ob, k3, k4, ?_, hne _ _ k5, S.kept _ _ k5, k6, k7, k8⟩ fun c' ctv h' tk hx hge hlt hrec htb => ?_)
  · rintro rfl
    have e := (S.kept _ _ k1).symm.trans (S.kept _ _ k5)
    cases e
    refine notnot fun hGoal => ?_
    obtain ⟨es, ep, hd, _⟩ := k2
    refine hGoal ?_
    clear hGoal
    rw [hd] at k8
    cases k8
  refine notnot fun hGoal => ?_
  obtain ⟨c₂, oc, vs, t, e2, hoc, hd, hv⟩ := hrec
  refine hGoal ?_
  clear hGoal
  cases e2
  have S1 := S.turnX (h' := h') tk (hu c') hx (Nat.le_trans hge (Nat.le_of_lt hlt)) ⟨_, htb, rfl⟩
  have hadr : ∀ p ∈ own' c', ∃ q ∈ own, q.1 = p.1 := by
    intro p hp
    have : p.1 ∈ own.map (·.1) := by rw [← (hu c').adr]; exact List.mem_map_of_mem hp
    refine notnot fun hGoal => ?_
    obtain ⟨q, hq, e⟩ := List.mem_map.mp this
    refine hGoal ?_
    clear hGoal
    exact ⟨q, hq, e⟩
  have hlo : ∀ p ∈ own' c', p.1 < s.heap.objs.size := fun p hp => by
    refine notnot fun hGoal => ?_
    obtain ⟨q, hq, e⟩ := hadr p hp
    refine hGoal ?_
    clear hGoal
    rw [← e]; exact S.lt hq
  have S2 := S1.addK hoc (Nat.le_trans S.size hge) fun p hp => Nat.ne_of_gt (Nat.lt_of_lt_of_le (hlo p hp) hge)
  have S3 := S2.grow (h' := h'.push (kla_obj "<lambda>" (env.qual ++ "<lambda>") params body scope clos ((mg "__name__").getD .none) c' ctv)) tk (fun b o e => Heap.get?_push_of_some _ e) (by rw [Heap.size_push]; exact Nat.le_succ _)
  have hsz : s.heap.objs.size ≤ h'.objs.size := Nat.le_trans hge (Nat.le_of_lt hlt)
  have S4 := S3.addK (a := h'.objs.size) (Heap.get?_push_size _ rfl) (Nat.le_trans S.size hsz) fun p hp => Nat.ne_of_gt (Nat.lt_of_lt_of_le (hlo p hp) hsz)
  refine h h'.objs.size c' _ _ ((le_add _ _ _).trans (le_add _ _ _)) ⟨_, ctv, c', oc, vs, t, .inr ⟨rfl, rfl⟩, .inl (.inr ⟨rfl, rfl⟩), hd, hv⟩ S4
theorem code_lam {f : Addr} {qual : Str} {params : Arguments} {body : Expr} {scope : Scope} {clos : List (Str × Addr)} {args : Args} {bs : List (Str × Value)} {n : Nat} {R : Result → Shared → Prop}
    (S : St c g K own s) (hF : LamAt K f qual params body scope clos) (hG : GB K GL BL) (hA : AOk A (n + 1))
    (hkind : scope.kind = .function) (hco : scope.isCoroutine = false) (hgen : scope.isGenerator = false) (hnd : names.Nodup) (hall : ∀ x ∈ names, scope.names.lookup x = some .local ∧ (x == ("__debug__" : Str)) = false) (hgall : ∀ x ∈ gn, scope.names.lookup x = some .globalImplicit ∧ (x == ("__debug__" : Str)) = false)
    (hcell : ∀ x ∈ scope.names, x.2 ≠ .cell) (hb : ∀ pm cdv ctv, bindArgs (kla_fn "<lambda>" qual params body scope clos pm cdv ctv) args = pure bs)
    (hvm : ∀ y, bs.reverse.lookup y = vm names vals y) (hbs : ∀ x ∈ bs, scope.names.lookup x.1 = some .local)
    (h : ∀ L env s₁, c.h0.objs.size ≤ L → AOk (A.deeper env) n → EnvF env L names gn → env.cells = clos → env.scope = scope → St c g K ((L, FrO names vals) :: own) s₁ →
      wpAny (model prog w) (A.deeper env) (eval body env) (fun v s' => R (.ok (.ret v)) s') (fun _ _ => False) s₁) :
    codeAny (model prog w) A (.call (.ref f) args) R s := by
  refine notnot fun hGoal => ?_
  obtain ⟨pm, ctv, c', oc, vs, t, h1, h2, h3, h4⟩ := hF
  refine hGoal ?_
  clear hGoal
  have lim := nolim S hG
  refine kla_callFunE hA.room (S.kept _ _ h1) rfl hco hgen rfl ⟨c', oc, vs, t, rfl, S.kept _ _ h2, h3, h4⟩ ?_
  rw [hb]
  refine wpAny_pure (wpAny_newFunctionEnv hcell hbs (fun h' hns hsb => ⟨lim.fresh _ hsb, ?_⟩) hkind)
  show codeAny _ _ (.expr body (envX qual scope s.heap.objs.size f (.ref c') clos)) _ _
  have S0 : St c g K ((s.heap.objs.size, fun _ => True) :: own) { s with heap := s.heap.push { cls := .type "frame", data := .dict #[] }, toks := s.toks } :=
    S.alloc0 (P := fun _ => True) { cls := .type "frame", data := .dict #[] } trivial rfl s.toks
  have S1 := S0.turn (s.toks + bs.length) (P' := FrO names vals) .here hsb (by
    refine of_ns ?_
    have e : (fun x => List.lookup x bs.reverse) = vm names vals := funext hvm
    rw [← e]; exact hns)
  exact kla_codeExpr (wpAny_mono (h _ (envX qual scope s.heap.objs.size f (.ref c') clos) _ S.size (hA.deeper _) ⟨hkind, rfl, rfl, rfl, hnd, hall, hgall⟩ rfl rfl S1) (fun _ _ x => x) fun _ _ x => x.elim)
end
end

section
def PInt (l : List Int) (i : Nat) (C : Value → Prop) : Prop := ∀ x t, l[i]? = some x → C (.int x t)
def PMap {α : Type} (K : KP) (f : α → PyData) (l : List α) (i : Nat) (C : Value → Prop) : Prop := ∀ x v, l[i]? = some x → Rd K v (f x) → C v
def PNat (l : List Nat) (i : Nat) (C : Value → Prop) : Prop := ∀ x t, l[i]? = some x → C (.int ((x : Nat) : Int) t)
def PRng (i : Nat) (C : Value → Prop) : Prop := ∀ t, C (.int (i : Nat) t)

section
variable {prog : Program} {w : World} {A : Around} {E : Value → Shared → Prop} {c : Cx} {g : Gs} {K : KP} {own rest : Own} {s : Shared} {env : Env} {L : Addr} {names gn : List Str} {vals : List (Option Value)} {GL BL : List (Str × Value)}

theorem Iter.imp {I : Addr} {n m : Nat} {P P' : Nat → Value → Prop} {h : Heap} (W : Iter prog w A c K I n P h) (e : n = m) (hp : ∀ i v, i < n → P i v → P' i v) : Iter prog w A c K I m P' h := by
  subst e
  cases W with | mk fp Wt W h1 h2 h3 h4
  exact ⟨fp, Wt, ⟨W.sub, W.frame, fun i s Q E hi st hQ => W.item i s Q E hi st fun v h' tk hP => hQ v h' tk (hp _ _ hi hP), W.done, W.self⟩, h1, h2, h3, h4⟩
theorem Iter.ints {I : Addr} {l : List Int} {h : Heap} (W : Iter prog w A c K I (l.map PyData.int).length (fun i v => ∃ d, (l.map PyData.int)[i]? = some d ∧ Rd K v d) h) : Iter prog w A c K I l.length (Chu (PInt l)) h :=
  W.imp (List.length_map _) fun i v _ ⟨d, hd, rd⟩ C k => by
    rw [List.getElem?_map] at hd
    obtain ⟨x, hx, rfl⟩ := Option.map_eq_some_iff.mp hd
    obtain ⟨t, rfl⟩ := rd.intE
    exact k x t hx
theorem Iter.map {α : Type} {f : α → PyData} {I : Addr} {l : List α} {h : Heap} (W : Iter prog w A c K I (l.map f).length (fun i v => ∃ d, (l.map f)[i]? = some d ∧ Rd K v d) h) : Iter prog w A c K I l.length (Chu (PMap K f l)) h :=
  W.imp (List.length_map _) fun i v _ ⟨d, hd, rd⟩ C k => by
    rw [List.getElem?_map] at hd
    obtain ⟨x, hx, rfl⟩ := Option.map_eq_some_iff.mp hd
    exact k x v hx rd
theorem Iter.rng {I : Addr} {n : Nat} {b : Int} {h : Heap} (W : Iter prog w A c K I (b - 0).toNat (fun i v => ∃ t, v = .int (0 + i) t) h) (e : b = (n : Nat)) : Iter prog w A c K I n (Chu PRng) h :=
  W.imp (by rw [e, Int.sub_zero, Int.toNat_natCast]) fun i v _ ⟨t, ev⟩ C k => by
    rw [ev, Int.zero_add]; exact k t
theorem gm {α β : Type} {f : α → β} {l : List α} {i : Nat} {x : α} (h : l[i]? = some x) : (l.map f)[i]? = some (f x) := by rw [List.getElem?_map, h]; rfl

/-- a comprehension without tests: ds is what it makes -/
theorem cmp_map {elt iter : Expr} {x : Str} {px : Pos} {scope : Scope} {cl : List (Str × Addr)} {pos : Pos} {Q : Value → Shared → Prop}
    {p : Addr × Pr} {I : Addr} {PI : Pr} {n : Nat} {P : Nat → (Value → Prop) → Prop} {cgn : List Str} (ds : List PyData)
    (S : St c g K (p :: (I, PI) :: rest) s) (W : Iter prog w A c K I n (Chu P) s.heap)
    (hcell : ∀ y ∈ scope.names, y.2 ≠ .cell) (hkind : scope.kind = .function)
    (hce : ∀ C, EnvF (compEnvC scope cl C env) C [x] cgn)
    (hsz : n ≤ sizeLine) (hn : n = ds.length)
    (turn : ∀ i K' ys s PI C D E' (N : Value → Shared → Prop), i < n → Le K K' → EnvF (compEnvC scope cl C env) C [x] cgn → c.h0.objs.size ≤ C →
      (∀ y K'' PC s₄ d, ds[i]? = some d → Le K' K'' → Rd K'' y d → St c g K'' ((C, FrO [x] [PC]) :: (I, PI) :: (D, LpO ys) :: p :: rest) s₄ → N y s₄) →
      P i fun v => St c g K' ((C, FrO [x] [some v]) :: (I, PI) :: (D, LpO ys) :: p :: rest) s →
        wpAny (model prog w) A (eval elt (compEnvC scope cl C env)) N E' s)
    (done : ∀ K' ys s D, Le K K' → RdAll K' ys ds → St c g K' (p :: (D, LpO ys) :: rest) s → Q (.ref D) s) :
    CompRun prog w A E elt x px iter [] scope pos cl env none Q (.ref I) s := by
  subst hn
  refine run_comp (fun i g' K' ys rest' => g' = g ∧ rest' = rest ∧ RdAll K' ys (ds.take i)) S W hcell hkind hce hsz ⟨rfl, rfl, .nil⟩ (fun i g' K' ys rest' s v PI C D E' N Nf hi hle hJ hv S2 hC he hN hNf => ?_) (fun i g' K ys rest' hJ => ?_) fun g' K' ys rest' s D hle hJ S2 => ?_
  · obtain ⟨rfl, rfl, hr⟩ := hJ
    refine no_ifs ?_
    rw [if_pos rfl]
    refine hv _ (turn i K' ys s PI C D E' N hi hle he hC fun y K'' PC s₄ d hd hle' rd S' => hN y _ _ _ PC s₄ hle' ⟨rfl, rfl, ?_⟩ S') S2
    rw [List.take_add_one, hd]
    exact (hr.mono hle').append (.cons rd .nil)
  · rw [hJ.2.2.length, List.length_take]; exact Nat.min_le_left _ _
  · obtain ⟨rfl, rfl, hr⟩ := hJ
    rw [List.take_of_length_le (Nat.le_refl _)] at hr
    exact done K' ys s D hle hr S2

/-- the same, the generators held by Gp alone -/
theorem cmp_mapG {elt iter : Expr} {x : Str} {px : Pos} {scope : Scope} {cl : List (Str × Addr)} {pos : Pos} {Q : Value → Shared → Prop}
    {p : Addr × Pr} {I : Addr} {PI : Pr} {n : Nat} {P : Nat → (Value → Prop) → Prop} {cgn : List Str} (Gp : Gs → Prop) (ds : List PyData)
    (S : St c g K (p :: (I, PI) :: rest) s) (W : Iter prog w A c K I n (Chu P) s.heap)
    (hcell : ∀ y ∈ scope.names, y.2 ≠ .cell) (hkind : scope.kind = .function)
    (hce : ∀ C, EnvF (compEnvC scope cl C env) C [x] cgn)
    (hsz : n ≤ sizeLine) (hn : n = ds.length) (hg : Gp g)
    (turn : ∀ i g' K' ys s PI C D E' (N : Value → Shared → Prop), i < n → Gp g' → Le K K' → EnvF (compEnvC scope cl C env) C [x] cgn →
      (∀ y g'' K'' PC s₄ d, ds[i]? = some d → Gp g'' → Le K' K'' → Rd K'' y d → St c g'' K'' ((C, FrO [x] [PC]) :: (I, PI) :: (D, LpO ys) :: p :: rest) s₄ → N y s₄) →
      P i fun v => St c g' K' ((C, FrO [x] [some v]) :: (I, PI) :: (D, LpO ys) :: p :: rest) s →
        wpAny (model prog w) A (eval elt (compEnvC scope cl C env)) N E' s)
    (done : ∀ g' K' ys s D, Gp g' → Le K K' → RdAll K' ys ds → St c g' K' (p :: (D, LpO ys) :: rest) s → Q (.ref D) s) :
    CompRun prog w A E elt x px iter [] scope pos cl env none Q (.ref I) s := by
  subst hn
  refine run_comp (fun i g' K' ys rest' => rest' = rest ∧ Gp g' ∧ RdAll K' ys (ds.take i)) S W hcell hkind hce hsz ⟨rfl, hg, .nil⟩ (fun i g' K' ys rest' s v PI C D E' N Nf hi hle hJ hv S2 hC he hN hNf => ?_) (fun i g' K ys rest' hJ => ?_) fun g' K' ys rest' s D hle hJ S2 => ?_
  · obtain ⟨rfl, hg', hr⟩ := hJ
    refine no_ifs ?_
    rw [if_pos rfl]
    refine hv _ (turn i g' K' ys s PI C D E' N hi hg' hle he fun y g'' K'' PC s₄ d hd hg'' hle' rd S' => hN y _ _ _ PC s₄ hle' ⟨rfl, hg'', ?_⟩ S') S2
    rw [List.take_add_one, hd]
    exact (hr.mono hle').append (.cons rd .nil)
  · rw [hJ.2.2.length, List.length_take]; exact Nat.min_le_left _ _
  · obtain ⟨rfl, hg', hr⟩ := hJ
    rw [List.take_of_length_le (Nat.le_refl _)] at hr
    exact done g' K' ys s D hg' hle hr S2
/-- the same, the list stored in a local of the line -/
theorem cmp_mapU {elt iter : Expr} {x y : Str} {px py : Pos} {scope : Scope} {cl : List (Str × Addr)} {pos : Pos} {Q : Value → Shared → Prop}
    {I : Addr} {PI : Pr} {n : Nat} {P : Nat → (Value → Prop) → Prop} {cgn : List Str} {vals' : Addr → List (Option Value)} (Gp : Gs → Prop) (ds : List PyData)
    (S : St c g K ((L, FrO names vals) :: (I, PI) :: rest) s) (he : EnvF env L names gn) (W : Iter prog w A c K I n (Chu P) s.heap)
    (hcell : ∀ y ∈ scope.names, y.2 ≠ .cell) (hkind : scope.kind = .function)
    (hce : ∀ C, EnvF (compEnvC scope cl C env) C [x] cgn)
    (hsz : n ≤ sizeLine) (hn : n = ds.length) (hg : Gp g) (hu : ∀ D, Up names vals y (.ref D) (vals' D))
    (turn : ∀ i g' K' ys s PI C D E' (N : Value → Shared → Prop), i < n → Gp g' → Le K K' → EnvF (compEnvC scope cl C env) C [x] cgn →
      (∀ y g'' K'' PC s₄ d, ds[i]? = some d → Gp g'' → Le K' K'' → Rd K'' y d → St c g'' K'' ((C, FrO [x] [PC]) :: (I, PI) :: (D, LpO ys) :: (L, FrO names vals) :: rest) s₄ → N y s₄) →
      P i fun v => St c g' K' ((C, FrO [x] [some v]) :: (I, PI) :: (D, LpO ys) :: (L, FrO names vals) :: rest) s →
        wpAny (model prog w) A (eval elt (compEnvC scope cl C env)) N E' s)
    (done : ∀ g' K' ys s D, Gp g' → Le K K' → RdAll K' ys ds → St c g' K' ((L, FrO names (vals' D)) :: (D, LpO ys) :: rest) s → Q .none s) :
    CompRun prog w A E elt x px iter [] scope pos cl env (some (assign (.Name y py) env)) Q (.ref I) s := by
  subst hn
  refine run_compU (fun i g' K' ys rest' => rest' = rest ∧ Gp g' ∧ RdAll K' ys (ds.take i)) S he W hcell hkind hce hsz ⟨rfl, hg, .nil⟩ (fun i g' K' ys rest' s v PI C D E' N Nf hi hle hJ hv S2 hC he hN hNf => ?_) (fun i g' K ys rest' hJ => ?_) fun D => ⟨_, hu D, fun g' K' ys rest' s hle hJ S2 => ?_⟩
  · obtain ⟨rfl, hg', hr⟩ := hJ
    refine no_ifs ?_
    rw [if_pos rfl]
    refine hv _ (turn i g' K' ys s PI C D E' N hi hg' hle he fun y g'' K'' PC s₄ d hd hg'' hle' rd S' => hN y _ _ _ PC s₄ hle' ⟨rfl, hg'', ?_⟩ S') S2
    rw [List.take_add_one, hd]
    exact (hr.mono hle').append (.cons rd .nil)
  · rw [hJ.2.2.length, List.length_take]; exact Nat.min_le_left _ _
  · obtain ⟨rfl, hg', hr⟩ := hJ
    rw [List.take_of_length_le (Nat.le_refl _)] at hr
    exact done g' K' ys s D hg' hle hr S2

/-- a comprehension, its owned things and the generators as before -/
theorem cmp_k {elt iter : Expr} {x : Str} {px : Pos} {ifs : List Expr} {scope : Scope} {cl : List (Str × Addr)} {pos : Pos} {Q : Value → Shared → Prop}
    {p : Addr × Pr} {I : Addr} {PI : Pr} {n : Nat} {P : Nat → (Value → Prop) → Prop} {cgn : List Str} (J : Nat → KP → List Value → Prop)
    (S : St c g K (p :: (I, PI) :: rest) s) (W : Iter prog w A c K I n (Chu P) s.heap)
    (hcell : ∀ y ∈ scope.names, y.2 ≠ .cell) (hkind : scope.kind = .function)
    (hce : ∀ C, EnvF (compEnvC scope cl C env) C [x] cgn)
    (hsz : n ≤ sizeLine) (h0 : J 0 K [])
    (turn : ∀ i K' ys s PI C D E' (N : Value → Shared → Prop) (Nf : Shared → Prop), i < n → Le K K' → J i K' ys → EnvF (compEnvC scope cl C env) C [x] cgn → c.h0.objs.size ≤ C →
      (∀ y K'' PC s₄, Le K' K'' → J (i + 1) K'' (ys ++ [y]) → St c g K'' ((C, FrO [x] [PC]) :: (I, PI) :: (D, LpO ys) :: p :: rest) s₄ → N y s₄) →
      (∀ K'' PC s₄, Le K' K'' → J (i + 1) K'' ys → St c g K'' ((C, FrO [x] [PC]) :: (I, PI) :: (D, LpO ys) :: p :: rest) s₄ → Nf s₄) →
      P i fun v => St c g K' ((C, FrO [x] [some v]) :: (I, PI) :: (D, LpO ys) :: p :: rest) s →
        wpAny (model prog w) A (forIn ifs true fun t r => if r = true then do let ok ← isTrue t (compEnvC scope cl C env) (eval t (compEnvC scope cl C env)); pure (ForInStep.yield ok) else pure (ForInStep.yield r)) (fun ok s₃ =>
        if ok = true then wpAny (model prog w) A (eval elt (compEnvC scope cl C env)) N E' s₃ else Nf s₃) E' s)
    (hlen : ∀ i K ys, J i K ys → ys.length ≤ i)
    (done : ∀ K' ys s D, Le K K' → J n K' ys → St c g K' (p :: (D, LpO ys) :: rest) s → Q (.ref D) s) :
    CompRun prog w A E elt x px iter ifs scope pos cl env none Q (.ref I) s := by
  refine run_comp (fun i g' K' ys rest' => g' = g ∧ rest' = rest ∧ J i K' ys) S W hcell hkind hce hsz ⟨rfl, rfl, h0⟩ (fun i g' K' ys rest' s v PI C D E' N Nf hi hle hJ hv S2 hC he hN hNf => ?_) (fun i g' K ys rest' hJ => hlen _ _ _ hJ.2.2) fun g' K' ys rest' s D hle hJ S2 => ?_
  · obtain ⟨rfl, rfl, hr⟩ := hJ
    exact hv _ (turn i K' ys s PI C D E' N Nf hi hle hr he hC (fun y K'' PC s₄ hle' hJ' S' => hN y _ _ _ PC s₄ hle' ⟨rfl, rfl, hJ'⟩ S') fun K'' PC s₄ hle' hJ' S' => hNf _ _ _ PC s₄ hle' ⟨rfl, rfl, hJ'⟩ S') S2
  · obtain ⟨rfl, rfl, hr⟩ := hJ
    exact done K' ys s D hle hr S2

/-- a list let go for good -/
theorem St.frz {G : Prop} {p : Addr × Pr} {a : Addr} {P : Pr} (S : St c g K (p :: (a, P) :: rest) s) (hm : a ∉ c.mu) (k : ∀ o, P o → St c g (K.add a o) (p :: rest) s → G) : G :=
  let ⟨o, h, S'⟩ := S.freeze1 hm
  k o h S'
theorem St.frzL {G : Prop} {p : Addr × Pr} {a : Addr} {vs : List Value} {ds : List PyData} (S : St c g K (p :: (a, LpO vs) :: rest) s) (hm : a ∉ c.mu) (r : RdAll K vs ds) (k : ∀ K', Le K K' → RdL K' (.ref a) ds → St c g K' (p :: rest) s → G) : G :=
  let ⟨o, h, S'⟩ := S.freeze1 hm
  k _ (le_add _ _ _) ⟨a, o, _, rfl, .inr ⟨rfl, rfl⟩, h, r.mono (le_add _ _ _)⟩ S'
theorem Rd.intC {v : Value} {i : Int} {C : Value → Prop} (h : Rd K v (.int i)) (k : ∀ t, C (.int i t)) : C v := by
  obtain ⟨t, rfl⟩ := h.intE; exact k t
theorem Rd.strC {v : Value} {i : Str} {C : Value → Prop} (h : Rd K v (.str i)) (k : ∀ t, C (.str i t)) : C v := by
  obtain ⟨t, rfl⟩ := h.strE; exact k t
theorem St.unV2 {mv : Mm} {P : Prop} (hV : vm names vals = mv) (S : St c g K ((L, NsO mv) :: rest) s) (h : St c g K ((L, FrO names vals) :: rest) s → P) : P := h (S.unV hV)
theorem get_C {α : Type} {G : Prop} {l : List α} {i : Nat} (h : i < l.length) (k : ∀ x, l[i]? = some x → G) : G := k _ (List.getElem?_eq_getElem h)
theorem St.frzN {G : Prop} {pre own2 : Own} (S : St c g K (pre ++ own2) s) (hm : c.mu = []) (k : ∀ K', Le K K' → St c g K' pre s → (∀ p ∈ own2, ∃ o, K' p.1 o ∧ p.2 o) → G) : G :=
  let ⟨_, a, b, d⟩ := St.freezeN S hm
  k _ a b d
def PStr {α : Type} (f : α → Str) (l : List α) (i : Nat) (C : Value → Prop) : Prop := ∀ x t, l[i]? = some x → C (.str (f x) t)
theorem Iter.strs {α : Type} {f : α → Str} {I : Addr} {l : List α} {h : Heap} (W : Iter prog w A c K I (l.map fun x => PyData.str (f x)).length (fun i v => ∃ d, (l.map fun x => PyData.str (f x))[i]? = some d ∧ Rd K v d) h) : Iter prog w A c K I l.length (Chu (PStr f l)) h :=
  W.map.imp rfl fun i v _ hv C k => hv C fun x v hx rd => rd.strC fun t => k x t hx
theorem sl_isl {value slice : Expr} {p : Addr × Pr} {a : Addr} {vs : List Value} {ds ds' : List PyData} {vl vu : Value} {lo hi : Option Int} {Q : Value → Shared → Prop} (S : St c g K (p :: rest) s) (hl : s.heap.IsList a vs.toArray) (r : RdAll K vs ds) (pl : IsPart vl lo) (pu : IsPart vu hi) (hz : ds.length ≤ 2 ^ 24)
    (e : (ds.drop (lo.elim 0 (clipAt ds.length))).take (hi.elim ds.length (clipAt ds.length) - lo.elim 0 (clipAt ds.length)) = ds')
    (h : ∀ d s' us, RdAll K us ds' → St c g K (p :: (d, LpO us) :: rest) s' → Q (.ref d) s')
    (hs : subscripted slice false (.ref a) (.ref s.heap.objs.size) = operate [.ref s.heap.objs.size, .ref a] (getItem (.ref a) (.ref s.heap.objs.size)) := by with_unfolding_all rfl) :
    wpAny (model prog w) A (subscriptTail value slice (.ref a) (.ref s.heap.objs.size)) Q E { s with heap := s.heap.push { cls := .type "slice", data := .fields #[vl, vu, .none] } } := by
  refine sl_any S hl pl pu (by rw [r.length]; exact hz) (fun d s' S' => h d s' _ ?_ S') hs
  rw [r.length, ← e]
  exact (r.drop _).take _
theorem sl_rd {value slice : Expr} {p : Addr × Pr} {v : Value} {ds ds' : List PyData} {vl vu : Value} {lo hi : Option Int} {Q : Value → Shared → Prop} (S : St c g K (p :: rest) s) (hv : Rd K v (.list ds)) (pl : IsPart vl lo) (pu : IsPart vu hi) (hz : ds.length ≤ 2 ^ 24)
    (e : (ds.drop (lo.elim 0 (clipAt ds.length))).take (hi.elim ds.length (clipAt ds.length) - lo.elim 0 (clipAt ds.length)) = ds')
    (h : ∀ d s' us, RdAll K us ds' → St c g K (p :: (d, LpO us) :: rest) s' → Q (.ref d) s')
    (hs : ∀ a, subscripted slice false (.ref a) (.ref s.heap.objs.size) = operate [.ref s.heap.objs.size, .ref a] (getItem (.ref a) (.ref s.heap.objs.size)) := by intro _; with_unfolding_all rfl) :
    wpAny (model prog w) A (subscriptTail value slice v (.ref s.heap.objs.size)) Q E { s with heap := s.heap.push { cls := .type "slice", data := .fields #[vl, vu, .none] } } := by
  obtain ⟨a, vs, rfl, hl, r⟩ := S.rdList hv
  exact sl_isl S hl r pl pu hz e h (hs a)
def PRngA (a i : Nat) (C : Value → Prop) : Prop := ∀ t, C (.int ((a + i : Nat) : Int) t)
def PRngB (a i : Nat) (C : Value → Prop) : Prop := ∀ t, C (.int ((i + a : Nat) : Int) t)
theorem it_rngA {p : Addr × Pr} {r : Addr} {a n : Int} {a' n' : Nat} {Q : Value → Shared → Prop} (S : St c g K (p :: rest) s) (hA : A.handled = none) (hr : Rng K r a n) (ea : a = (a' : Nat)) (en : n = (n' : Nat)) (ha : a' < 2 ^ 62) (hn : n' < 2 ^ 62)
    (h : ∀ I s', St c g K (p :: (I, fun _ => True) :: rest) s' → Iter prog w A c K I (n' - a') (Chu (PRngA a')) s'.heap → Q (.ref I) s') : wpAny (model prog w) A (pyIter (.ref r)) Q E s := by
  subst ea; subst en
  refine it_range2 S hA hr (Int.natCast_nonneg _) (Int.ofNat_lt.mpr ha) (Int.natCast_nonneg _) (Int.ofNat_lt.mpr hn) fun I s' S' W => h I s' S' (W.imp (by omega) fun i v _ ⟨t, e⟩ C k => ?_)
  rw [e]; exact k t
theorem Iter.rngB {I : Addr} {n a : Nat} {h : Heap} (W : Iter prog w A c K I n (Chu (PRngA a)) h) : Iter prog w A c K I n (Chu (PRngB a)) h :=
  W.imp rfl fun i v _ hv C k => hv C fun t => by rw [Nat.add_comm]; exact k t
theorem m1_lt {m p : Nat} (e : m = p + 1) : p < m := e ▸ Nat.lt_succ_self p
theorem m1_add {m p a N : Nat} (h : m + a = N) (e : m = p + 1) : p + (a + 1) = N := by subst e; rw [← h, Nat.succ_add]; rfl
theorem eqC {α : Type} {a b : α} {C : α → Prop} (e : a = b) (h : C b) : C a := e ▸ h
abbrev dN (x : Nat) : PyData := .int (x : Int)
theorem Iter.nats {I : Addr} {l : List Nat} {h : Heap} (W : Iter prog w A c K I (l.map dN).length (fun i v => ∃ d, (l.map dN)[i]? = some d ∧ Rd K v d) h) : Iter prog w A c K I l.length (Chu (PNat l)) h :=
  W.imp (List.length_map _) fun i v _ ⟨d, hd, rd⟩ C k => by
    rw [List.getElem?_map] at hd
    obtain ⟨x, hx, rfl⟩ := Option.map_eq_some_iff.mp hd
    obtain ⟨t, rfl⟩ := rd.intE
    exact k x t hx
theorem it_rng {p : Addr × Pr} {r : Addr} {b : Int} {n : Nat} {Q : Value → Shared → Prop} (S : St c g K (p :: rest) s) (hA : A.handled = none) (hr : Rng K r 0 b) (e : b = (n : Nat)) (hn : n < 2 ^ 62)
    (h : ∀ I s', St c g K (p :: (I, fun _ => True) :: rest) s' → Iter prog w A c K I n (Chu PRng) s'.heap → Q (.ref I) s') : wpAny (model prog w) A (pyIter (.ref r)) Q E s :=
  it_range S hA hr (Int.le_refl _) (by rw [e]; exact Int.ofNat_lt.mpr hn) (by rw [e]; exact Int.natCast_nonneg _) fun I s' S' W => h I s' S' (W.rng e)
theorem rdl_new {o : Obj} {a : Addr} {vs : List Value} {ds : List PyData} (h : LpO vs o) (r : RdAll (K.add a o) vs ds) : RdL (K.add a o) (.ref a) ds := ⟨a, o, _, rfl, .inr ⟨rfl, rfl⟩, h, r⟩
theorem rd_new {o : Obj} {a : Addr} {vs : List Value} {ds : List PyData} (h : LpO vs o) (r : RdAll (K.add a o) vs ds) : Rd (K.add a o) (.ref a) (.list ds) := (rdl_new h r).rd
theorem b_catL {p : Addr × Pr} {v : Value} {b : Addr} {us : List Value} {ds : List PyData} {Q : Value → Shared → Prop} (S : St c g K (p :: rest) s) (hv : RdL K v ds) (hb : (b, LpO us) ∈ p :: rest) (hz : ds.length + us.length ≤ sizeLine)
    (h : ∀ d s' vs, RdAll K vs ds → St c g K (p :: (d, LpO (vs ++ us)) :: rest) s' → Q (.ref d) s') : wpAny (model prog w) A (binaryOp .Add v (.ref b)) Q E s := by
  obtain ⟨a, vs, rfl, hp, r⟩ := S.rdl hv
  exact b_cat S hp (S.owned _ hb) (by rw [r.length]; exact hz) fun d s' S' => h d s' vs r S'
theorem sub_int {value slice : Expr} {a : Addr} {vs : List Value} {l : List Int} {k : Int} {u : Tok} {i : Nat} {Q : Value → Shared → Prop} (hl : s.heap.IsList a vs.toArray) (r : RdAll K vs (l.map PyData.int)) (hi : i < l.length) (hi2 : i < 2 ^ 62) (h : ∀ t, Q (.int (l.getD i 0) t) s) (hk : k = i := by rfl)
    (hs : subscripted slice false (.ref a) (.int k u) = operate [.ref a, .int k u] (getItem (.ref a) (.int k u)) := by with_unfolding_all rfl) : wpAny (model prog w) A (subscriptTail value slice (.ref a) (.int k u)) Q E s := by
  obtain ⟨t, e⟩ := r.getI hi
  exact sub_list hl hk e hi2 (h t) hs
theorem sub_nat {value slice : Expr} {a : Addr} {vs : List Value} {l : List Nat} {k : Int} {u : Tok} {i : Nat} {Q : Value → Shared → Prop} (hl : s.heap.IsList a vs.toArray) (r : RdAll K vs (l.map dN)) (hi : i < l.length) (hi2 : i < 2 ^ 62) (h : ∀ t, Q (.int ((l.getD i 0 : Nat) : Int) t) s) (hk : k = i := by rfl)
    (hs : subscripted slice false (.ref a) (.int k u) = operate [.ref a, .int k u] (getItem (.ref a) (.int k u)) := by with_unfolding_all rfl) : wpAny (model prog w) A (subscriptTail value slice (.ref a) (.int k u)) Q E s := by
  obtain ⟨t, e⟩ := r.getN hi
  exact sub_list hl hk e hi2 (h t) hs
theorem sub_rdI {value slice : Expr} {v : Value} {ds : List PyData} {z k : Int} {u : Tok} {i : Nat} {Q : Value → Shared → Prop} (S : St c g K own s) (hr : Rd K v (.list ds)) (hx : ds[i]? = some (.int z)) (hi : i < 2 ^ 62)
    (h : ∀ t, Q (.int z t) s) (hk : k = i := by rfl)
    (hs : ∀ a, subscripted slice false (.ref a) (.int k u) = operate [.ref a, .int k u] (getItem (.ref a) (.int k u)) := by intro a; with_unfolding_all rfl) : wpAny (model prog w) A (subscriptTail value slice v (.int k u)) Q E s :=
  sub_rd S hr hk hx hi (fun x rx => rx.intC (C := fun x => Q x s) h) hs
end
end

section
def nthS : List Stmt → Nat → Stmt
  | [], _ => .Pass default
  | s :: _, 0 => s
  | _ :: r, n + 1 => nthS r n
def fdOf : Stmt → Fd
  | .FunctionDef n a b _ _ _ s _ _ _ => ⟨n, n, a, b, s⟩
  | _ => ⟨"", "", { posonlyargs := [], args := [], vararg := none, kwonlyargs := [], kw_defaults := [], kwarg := none, defaults := [] }, [], { kind := .function, names := [], isGenerator := false, isCoroutine := false, more := [] }⟩
def topS (i : Nat) : Stmt := nthS PySem.Challenge.pw_wk0050_01.main.body i

abbrev gl : List (Str × Value) := [("_law_read", .ref 287), ("_law_sizes", .ref 294), ("_law_plain", .ref 301), ("_law_renaming", .ref 308), ("_law_moved", .ref 313), ("_law_kinds", .ref 318), ("_law_due", .ref 323), ("_law_rise", .ref 328),
  ("Int2AP", .ref 118), ("_strxfrm", .ref 125), ("format_witnesses", .ref 111), ("_grouping_intervals", .ref 132), ("Headers", .ref 276), ("Whitespace", .ref 100), ("_name_disallowed_re", .ref 142), ("_value_disallowed_re", .ref 147), ("CHAR_MAX", .int 127 424)]
abbrev bl : List (Str × Value) := [("len", .builtin "len"), ("range", .type "range"), ("sorted", .builtin "sorted"), ("sum", .builtin "sum"), ("max", .builtin "max"), ("divmod", .builtin "divmod"), ("abs", .builtin "abs"), ("int", .type "int"), ("str", .type "str"), ("type", .type "type"), ("tuple", .type "tuple"), ("list", .type "list")]

abbrev dI (x : Nat) : PyData := .int (x : Int)
abbrev dInts (l : List Nat) : PyData := .list (l.map dI)
abbrev dKind (k : P.Kind) : PyData := .tuple [.int k.1, .int k.2.1, .bool k.2.2]
theorem unit_bits {a : Int} (h : a = 0 ∨ a = 1 ∨ a = -1) : Builtin.Int.intBits a ≤ 64 := by
  rcases h with rfl | rfl | rfl <;> decide +kernel
end

section
def clsB : Stmt → List Stmt
  | .ClassDef _ _ _ b .. => b
  | _ => []
def fdIn (q : Str) (s : Stmt) : Fd := { fdOf s with qual := q }
abbrev wsS (i : Nat) : Stmt := nthS (clsB (topS 3)) i
abbrev hdS (i : Nat) : Stmt := nthS (clsB (topS 16)) i
set_option maxRecDepth 100000 in
class HF (KFh : Params → Frag) : Prop where
  f_ap : ∀ {P : Params} {K : KP} (h : InK (KFh P) K), Fun K 118 (fdOf (topS 6))
  f_xfrm : ∀ {P : Params} {K : KP} (h : InK (KFh P) K), Fun K 125 (fdOf (topS 8))
  f_read : ∀ {P : Params} {K : KP} (h : InK (KFh P) K), Fun K 287 (fdOf (topS 18))
  f_sizes : ∀ {P : Params} {K : KP} (h : InK (KFh P) K), Fun K 294 (fdOf (topS 19))
  f_plain : ∀ {P : Params} {K : KP} (h : InK (KFh P) K), Fun K 301 (fdOf (topS 20))
  f_ren : ∀ {P : Params} {K : KP} (h : InK (KFh P) K), Fun K 308 (fdOf (topS 21))
  f_moved : ∀ {P : Params} {K : KP} (h : InK (KFh P) K), Fun K 313 (fdOf (topS 22))
  f_kinds : ∀ {P : Params} {K : KP} (h : InK (KFh P) K), Fun K 318 (fdOf (topS 23))
  f_due : ∀ {P : Params} {K : KP} (h : InK (KFh P) K), Fun K 323 (fdOf (topS 24))
  f_rise : ∀ {P : Params} {K : KP} (h : InK (KFh P) K), Fun K 328 (fdOf (topS 25))
  f_gi : ∀ {P : Params} {K : KP} (h : InK (KFh P) K), Fun K 132 (fdOf (topS 10))
  f_wini : ∀ {P : Params} {K : KP} (h : InK (KFh P) K), Fun K 55 (fdIn "Whitespace.__init__" (wsS 1))
  f_wlr : ∀ {P : Params} {K : KP} (h : InK (KFh P) K), Fun K 62 (fdIn "Whitespace.longest_run_of_spaces" (wsS 2))
  f_wil : ∀ {P : Params} {K : KP} (h : InK (KFh P) K), Fun K 69 (fdIn "Whitespace.indent_level" (wsS 3))
  f_weq : ∀ {P : Params} {K : KP} (h : InK (KFh P) K), Fun K 76 (fdIn "Whitespace.equal" (wsS 4))
  f_wls : ∀ {P : Params} {K : KP} (h : InK (KFh P) K), Fun K 90 (fdIn "Whitespace.less" (wsS 6))
  f_wnl : ∀ {P : Params} {K : KP} (h : InK (KFh P) K), Fun K 97 (fdIn "Whitespace.not_less_witness" (wsS 7))
  w_make : ∀ (P : Params), makesIn (KFh P) 100 = true
  w_init : ∀ (P : Params), findIn (KFh P) (.ref 100) "__init__" = some (some (.ref 55))
  w_fn : ∀ (P : Params), typeIn (KFh P) (.ref 55) = some (.type "function")
  w_S : ∀ (P : Params), findCls (KFh P) (.ref 100) (.type "type") "S" = some (.val (.str " " 304))
  w_T : ∀ (P : Params), findCls (KFh P) (.ref 100) (.type "type") "T" = some (.val (.str "\t" 305))
  w_rd : ∀ (P : Params), readsIn (KFh P) 100 (.type "type") = true
  o_raw : ∀ (P : Params), OwnNm (KFh P) 100 "raw"
  o_n : ∀ (P : Params), OwnNm (KFh P) 100 "n"
  o_nt : ∀ (P : Params), OwnNm (KFh P) 100 "nt"
  o_norm : ∀ (P : Params), OwnNm (KFh P) 100 "norm"
  o_simple : ∀ (P : Params), OwnNm (KFh P) 100 "is_simple"
  s_raw : ∀ (P : Params), SetNm (KFh P) 100 "raw"
  s_n : ∀ (P : Params), SetNm (KFh P) 100 "n"
  s_nt : ∀ (P : Params), SetNm (KFh P) 100 "nt"
  s_norm : ∀ (P : Params), SetNm (KFh P) 100 "norm"
  s_simple : ∀ (P : Params), SetNm (KFh P) 100 "is_simple"
  p_il : ∀ (P : Params), plainGet (KFh P) 100 "indent_level" = true ∧ findIn (KFh P) (.ref 100) "indent_level" = some (some (.ref 69)) ∧ isFn (KFh P) (.ref 69) = true
  p_lr : ∀ (P : Params), plainGet (KFh P) 100 "longest_run_of_spaces" = true ∧ findIn (KFh P) (.ref 100) "longest_run_of_spaces" = some (some (.ref 62)) ∧ isFn (KFh P) (.ref 62) = true
  k_il : ∀ (P : Params), keepIn (KFh P) (.ref 69) = true
  k_lr : ∀ (P : Params), keepIn (KFh P) (.ref 62) = true
  f_hini : ∀ {P : Params} {K : KP} (h : InK (KFh P) K), FunD K 170 (fdIn "Headers.__init__" (hdS 0)) (.ref 163) .none
  f_hcst : ∀ {P : Params} {K : KP} (h : InK (KFh P) K), FunD K 177 (fdIn "Headers._convert_string_type" (hdS 1)) .none .none
  f_hadd : ∀ {P : Params} {K : KP} (h : InK (KFh P) K), FunD K 273 (fdIn "Headers.add_header" (hdS 16)) .none .none
  f_d163 : ∀ {P : Params} {K : KP} (h : InK (KFh P) K), ∃ o n, K 163 o ∧ o.data = .seq #[Value.none] n
  f_o276 : ∀ {P : Params} {K : KP} (h : InK (KFh P) K), ∃ o, K 276 o
  h_own : ∀ (P : Params), OwnNm (KFh P) 276 "_headers"
  h_set : ∀ (P : Params), SetNm (KFh P) 276 "_headers"
  p_hcst : ∀ (P : Params), plainGet (KFh P) 276 "_convert_string_type" = true ∧ findIn (KFh P) (.ref 276) "_convert_string_type" = some (some (.ref 177)) ∧ isFn (KFh P) (.ref 177) = true
  p_hall : ∀ (P : Params), plainGet (KFh P) 276 "get_all" = true ∧ findIn (KFh P) (.ref 276) "get_all" = some (some (.ref 215)) ∧ isFn (KFh P) (.ref 215) = true
  p_hadd : ∀ (P : Params), plainGet (KFh P) 276 "add_header" = true ∧ findIn (KFh P) (.ref 276) "add_header" = some (some (.ref 273)) ∧ isFn (KFh P) (.ref 273) = true
  k_hcst : ∀ (P : Params), keepIn (KFh P) (.ref 177) = true
  k_hall : ∀ (P : Params), keepIn (KFh P) (.ref 215) = true
  k_hadd : ∀ (P : Params), keepIn (KFh P) (.ref 273) = true
  rx_name : ∀ {P : Params} {K : KP} (h : InK (KFh P) K), ∃ px pt fl items n, K 142 { cls := .type "re.Pattern", data := .fields #[.str px pt, fl, .int 0 0, .none, .none, .ref 141, .int 0 0] } ∧ K 141 { cls := .type "tuple", data := .seq items n } ∧ (items.map Builtin.Re.reRawOf).map (·.toNat) = Rx.nameCode
  rx_val : ∀ {P : Params} {K : KP} (h : InK (KFh P) K), ∃ px pt fl items n, K 147 { cls := .type "re.Pattern", data := .fields #[.str px pt, fl, .int 0 0, .none, .none, .ref 146, .int 0 0] } ∧ K 146 { cls := .type "tuple", data := .seq items n } ∧ (items.map Builtin.Re.reRawOf).map (·.toNat) = Rx.valCode
  h_make : ∀ (P : Params), makesIn (KFh P) 276 = true
  h_init : ∀ (P : Params), findIn (KFh P) (.ref 276) "__init__" = some (some (.ref 170))
  h_fn : ∀ (P : Params), typeIn (KFh P) (.ref 170) = some (.type "function")
  x_hall : ∀ {P : Params} {K : KP} (h : InK (KFh P) K), FunX K 215 (fdIn "Headers.get_all" (hdS 7)) .none .none 214
  x_fw : ∀ {P : Params} {K : KP} (h : InK (KFh P) K), FunX K 111 (fdOf (topS 4)) .none .none 110
  hd_fw : ∀ (P : Params), codeHdIn (KFh P) 110 106 = true
  k_gi : ∀ (P : Params), keepIn (KFh P) (.ref 132) = true
  p_nl : ∀ (P : Params), plainGet (KFh P) 100 "not_less_witness" = true ∧ findIn (KFh P) (.ref 100) "not_less_witness" = some (some (.ref 97)) ∧ isFn (KFh P) (.ref 97) = true
  p_ls : ∀ (P : Params), plainGet (KFh P) 100 "less" = true ∧ findIn (KFh P) (.ref 100) "less" = some (some (.ref 90)) ∧ isFn (KFh P) (.ref 90) = true
  p_eq : ∀ (P : Params), plainGet (KFh P) 100 "equal" = true ∧ findIn (KFh P) (.ref 100) "equal" = some (some (.ref 76)) ∧ isFn (KFh P) (.ref 76) = true
  k_nl : ∀ (P : Params), keepIn (KFh P) (.ref 97) = true
  k_ls : ∀ (P : Params), keepIn (KFh P) (.ref 90) = true
  k_eq : ∀ (P : Params), keepIn (KFh P) (.ref 76) = true
  k_fw : ∀ (P : Params), keepIn (KFh P) (.ref 111) = true
  k_rise : ∀ (P : Params), keepIn (KFh P) (.ref 328) = true
  k_ws : ∀ (P : Params), keepIn (KFh P) (.ref 100) = true
  k_due : ∀ (P : Params), keepIn (KFh P) (.ref 323) = true
  k_ap : ∀ (P : Params), keepIn (KFh P) (.ref 118) = true
  k_hds : ∀ (P : Params), keepIn (KFh P) (.ref 276) = true
  k_ren : ∀ (P : Params), keepIn (KFh P) (.ref 308) = true
  k_moved : ∀ (P : Params), keepIn (KFh P) (.ref 313) = true
  k_kinds : ∀ (P : Params), keepIn (KFh P) (.ref 318) = true
  k_sizes : ∀ (P : Params), keepIn (KFh P) (.ref 294) = true
  k_plain : ∀ (P : Params), keepIn (KFh P) (.ref 301) = true
  hd_law : ∀ (P : Params), codeHdIn (KFh P) 332 330 = true
  k_xfrm : ∀ (P : Params), keepIn (KFh P) (.ref 125) = true
  k_read : ∀ (P : Params), keepIn (KFh P) (.ref 287) = true
  x_law : ∀ {P : Params} {K : KP} (h : InK (KFh P) K), FunX K 333 (fdOf (topS 26)) .none .none 332
  glob_all : ∀ (Pp : Params), ∀ q ∈ gl, nsIn (KFh Pp) mainGlobals q.1 = some (some q.2)
  blt_all : ∀ (Pp : Params), ∀ q ∈ bl, nsIn (KFh Pp) mainGlobals q.1 = some none ∧ bootBuiltins q.1 = some q.2 ∧ q.1 ≠ "__name__"
  kf_apart : ∀ (Pp : Params), (KFh Pp).lookup 106 = none ∧ (KFh Pp).lookup 330 = none
end

section
set_option hygiene false
set_option compiler.extract_closed false
-- the walk's steps, said in words: op and names; ';' then, '|' or else
def kxTab : List (String × String) := [
  ("ix", "L Ix.here Ix.there"),
  ("up", "L Up.here Up.there"),
  ("ou", "L OwnUp.here OwnUp.there"),
  ("me", "L List.mem_cons_self List.mem_cons_of_mem"),
  ("k0", "x S;i s₁ S"),
  ("k1", "x S;i t s₁ S"),
  ("lv", "r ev_locM S he hLv ?zq1 ?_;c zq1 ix|r ev_loc S he ?zq1 ?_;c zq1 ix"),
  ("sv", "r st_locM S he hLv ?zq1 ?_;c zq1 up;x S hLv;i mLv s₁ hLv S|r st_loc S he ?zq1 ?_;c zq1 up;k k0"),
  ("gv", "d St.gen S ?_;x S;i mLv hLv S"),
  ("bk", "d St.unV2 hLv S ?_;x hLv S;i S|s s"),
  ("gb", "r ev_blt S he hG ?zq2 ?zq3 ?_;c zq2 me;c zq3 me"),
  ("gg", "r ev_glob S he hG ?zq2 ?zq3 ?_;c zq2 me;c zq3 me"),
  ("ci", "r ev_int S ?_;k k1"),
  ("cs", "r ev_str S ?_;k k1"),
  ("add", "r b_add S ?_;k k1"),
  ("sub", "r b_sub S ?_;k k1"),
  ("neg", "r u_neg S ?_;k k1"),
  ("cby", "r ev_bytes S ?_;k k1"),
  ("sl", "d set_ls S ?zq4 rfl ?zq5 ?zq6 ?_;c zq4 ou;o zq5;o zq6;k k0"),
  ("ln", "d c_len S @S ?zq5 ?_;c zq7 me;o zq5;k k1"),
  ("ap", "d c_append S ?zq4 ?zq5 ?_;c zq4 ou;o zq5;k k0"),
  ("ma", "d m_append S ?zq7 ?_;c zq7 me"),
  ("cel", "d ev_cell S he hc ?zq7 ?_;c zq7 me"),
  ("stc", "d st_cell S he hc hk ?zq4 ?_;c zq4 ou;k k0"),
  ("iN", "i Nn hNn"),
  ("hN", "r hNn _ _ ?_;x hNn|r hNl _ _ ?_;x hNl;k bk|r hNf _ ?_;x hNf"),
  ("nx", "k bk;d hNl _ _ _ _ _ rfl @L ?_ S;i cJ kJ"),
  ("fz", "d St.frz S List.not_mem_nil ?_;i o ho S"),
  ("xc", "d xs_one ?_|d xs_cons ?_;i Nn hNn|d wpAny_execs_nil ?_"),
  ("xd", "g g;k xc"),
  ("xe", "r x_expr he ?_ ?zq9;u zq9"),
  ("oev", "k lv|k ci|q ev_slice|q Subscript_|k gb|w MethodCall_|w Call_|q wpAny_BinOp|k gg|k cs|k cby|q List_|q Tuple_|w wpAny_Compare1|q Attribute_any_|q UnaryOp_|q IfExp_|q ev_bool|q ev_none"),
  ("oex", "w x_set|v Assign_Tuple|w wpAny_Assign_Subscript|w plainObj_wpAny_Assign_Attribute|q wpAny_Break|q wpAny_If|q wpAny_While|w wpAny_For|q wpAny_Return_some|k xe"),
  ("one", "k oev|k oex|k sv|k add|k sub|k xd|w spliced_more|q spliced_none|v PyProof.Rows.callWith_builtin1|v PyProof.Rows.callWith_method1|q PyProof.Rows.callWith_method0|v PyProof.Rows.callWith_type1|w wpAny_isTrue_Compare1|h h;w isTrue_plain|q lt_int|q ge_int|q gt_int|q le_int|q eq_int|q ne_int|q wpAny_truthy_bool|q truthy_int|q call_int_int|q pt_none|q pt_some|k neg|k hN"),
  ("go", "R one")]
def kxArg (a : String) : Lean.MacroM (Lean.TSyntax `term) :=
  if a == "_" then `(_) else if a == "?_" then `(?_) else if a == "@L" then `(Le.refl _) else if a == "@S" then `(St.listAt S ?zq7)
  else if a.startsWith "?" then `(?$(Lean.mkIdent (a.drop 1).toName)) else pure ⟨Lean.mkIdent a.toName⟩
def kxOne (c : String) : Lean.MacroM (Lean.TSyntax `tactic) := do
  let r := (c.splitOn " ").drop 1
  let i := (r.map fun a => Lean.mkIdent a.toName).toArray
  let f := i.getD 0 default
  let n := i.getD 1 default
  let as ← (r.drop 1).toArray.mapM kxArg
  let ca ← `(Lean.Parser.Tactic.caseArg| $f:ident)
  match c.front with
  | 'k' => `(tactic| kspl_open $f)
  | 'r' => `(tactic| with_reducible refine' $f $as*)
  | 'd' => `(tactic| refine' $f $as*)
  | 'q' => `(tactic| with_reducible refine $f ?_)
  | 'w' => `(tactic| ((with_reducible refine' $f ?_ ?zq9); (case zq9 => (intros; with_unfolding_all rfl))))
  | 'v' => `(tactic| ((with_reducible refine $f ?_ ?zq9 ?zq8); (case zq9 => with_unfolding_all rfl); (case zq8 => with_unfolding_all rfl)))
  | 'u' => `(tactic| case $ca => with_unfolding_all rfl)
  | 'c' => `(tactic| case $ca => kspl_open $n)
  | 'o' => `(tactic| case $ca => first | omega | (show _ ≤ 2 ^ 24; omega))
  | 'x' => `(tactic| clear $i*)
  | 'i' => `(tactic| intro $i*)
  | 'L' => `(tactic| with_reducible (repeat (first | exact $f | apply $n)))
  | 'R' => `(tactic| repeat (kspl_open $f))
  | 'g' => `(tactic| with_reducible show wpAny _ _ (execs _ _) _ _ _)
  | 'h' => `(tactic| with_reducible show wpAny _ _ (PySem.isTrue (Expr.Name _ _) _ _) _ _ _)
  | _ => `(tactic| skip)
def kxSeq (t : String) : Lean.MacroM (Lean.TSyntax `tactic) := do
  let ts ← (t.splitOn ";").toArray.mapM kxOne
  `(tactic| ($[$ts:tactic];*))
end

set_option hygiene false
set_option compiler.extract_closed false
local macro_rules
  | `(tactic| kspl_open $i) => do
    match kxTab.lookup i.getId.toString with
    | some t =>
      let ts ← (t.splitOn "|").toArray.mapM kxSeq
      if ts.size == 1 then pure ts[0]! else `(tactic| first $[| $ts:tactic]*)
    | none => Lean.Macro.throwUnsupported
set_option hygiene true
set_option compiler.extract_closed true

section
variable {KFh : Params → Frag} [HF KFh]
open HF

section
abbrev kindsFd : Fd := fdOf (topS 23)
abbrev kindsN : List Str := ["moved", "turns", "counts", "mark", "kinds", "first", "row", "great", "at", "k", "to", "sign"]
abbrev kindsG : List Str := ["len", "range"]
theorem kinds_scope : ScopeOk kindsFd.S kindsN kindsG := by
  refine ⟨by rfl, by decide +kernel, by decide +kernel, by decide +kernel, by decide +kernel, by exact ⟨rfl, rfl⟩⟩


def kst (m0 m1 : List Nat) (t0 t1 : Int) (n i : Nat) : List Int × List P.Kind := (List.range i).foldl (P.kindStep m0 m1 t0 t1 (P.cnt n) (2 ^ n)) (List.replicate (2 ^ n) 0, [])
theorem kst_succ {m0 m1 : List Nat} {t0 t1 : Int} {n i : Nat} : kst m0 m1 t0 t1 n (i + 1) = P.kindStep m0 m1 t0 t1 (P.cnt n) (2 ^ n) (kst m0 m1 t0 t1 n i) i := by
  rw [kst, List.range_succ, List.foldl_append]; rfl
def kJ1 (n : Nat) (vM vT : Value) (m : Nat) (K : KP) (C : JC) : Prop := ∀ k v, m + k = n → RdL K v ((P.cnt k).map dI) → C [some vM, some vT, some v, none, none, none, none, none, none, none, none, none] []
def kJ2 (vM vT v : Value) (d aK : Addr) (st : List Int × List P.Kind) (K : KP) (C : JC) : Prop := ∀ f r gr at_ kk to sg mv kv, RdAll K mv (st.1.map PyData.int) → RdAll K kv (st.2.map dKind) →
  C [some vM, some vT, some v, some (.ref d), some (.ref aK), f, r, gr, at_, kk, to, sg] [(aK, LpO kv), (d, LpO mv)]
def kJ3 (vM vT v fv : Value) (d aK aR I : Addr) (PI : Pr) (kv : List Value) (N : Nat) (bf : Nat → Nat → P.BS → P.BS) (b0 : P.BS) (m : Nat) (K : KP) (C : JC) : Prop := ∀ at_ b ta kk to sg mv rv, m + at_ = N → bf m at_ b = b0 → P.BInv N b → RdAll K mv (b.mark.map PyData.int) → RdAll K rv (b.row.map dI) →
  C [some vM, some vT, some v, some (.ref d), some (.ref aK), some fv, some (.ref aR), some (.bool b.great), some (.int (at_ : Nat) ta), kk, to, sg] [(aR, LpO rv), (I, PI), (aK, LpO kv), (d, LpO mv)]
def kJ4 (vM vT v fv av : Value) (d aK aR I : Addr) (PI : Pr) (kv : List Value) (b : P.BS) (K : KP) (C : JC) : Prop := ∀ kk to sg mv rv, RdAll K mv (b.mark.map PyData.int) → RdAll K rv (b.row.map dI) →
  C [some vM, some vT, some v, some (.ref d), some (.ref aK), some fv, some (.ref aR), some (.bool b.great), some av, kk, to, sg] [(aR, LpO rv), (I, PI), (aK, LpO kv), (d, LpO mv)]
theorem kJ2_to {vM vT v : Value} {d aK : Addr} {st st' : List Int × List P.Kind} {K : KP} {C : JC} (e : st = st') (h : kJ2 vM vT v d aK st K C) : kJ2 vM vT v d aK st' K C := e ▸ h
theorem kJ4_to {vM vT v fv av : Value} {d aK aR I : Addr} {PI : Pr} {kv : List Value} {b b' : P.BS} {K : KP} {C : JC} (e : b = b') (h : kJ4 vM vT v fv av d aK aR I PI kv b K C) : kJ4 vM vT v fv av d aK aR I PI kv b' K C := e ▸ h
/-- what one step of the inner loop stands on -/
inductive KStep (m0 m1 : List Nat) (t0 t1 : Int) (N at_ x j : Nat) : P.BS → P.BS → Prop
  | mk (b : P.BS) (mj : List Nat) (tj : Int) (hmj : ([dInts m0, dInts m1] : List PyData)[j]? = some (dInts mj)) (htj : ([.int t0, .int t1] : List PyData)[j]? = some (.int tj)) (hMj : P.Mv N mj) (uj : P.unit tj)
    (hB : P.BInv N b) (hx : x ∈ b.row) (hxx : b.row.getD at_ 0 = x) (hlt : at_ < b.row.length) : KStep m0 m1 t0 t1 N at_ x j b (P.stepK mj tj x b)
theorem kstep {m0 m1 : List Nat} {t0 t1 : Int} {N at_ x : Nat} {b : P.BS} {j : Nat} (h0 : P.Mv N m0) (h1 : P.Mv N m1) (u0 : P.unit t0) (u1 : P.unit t1) (hB : P.BInv N b) (hx : x ∈ b.row) (hxx : b.row.getD at_ 0 = x) (hlt : at_ < b.row.length) (hj : j < 2) : KStep m0 m1 t0 t1 N at_ x j (P.itB m0 m1 t0 t1 x b j) (P.itB m0 m1 t0 t1 x b (j + 1)) := by
  match j, hj with
  | 0, _ => exact .mk b m0 t0 rfl rfl h0 u0 hB hx hxx hlt
  | 1, _ => exact .mk (P.stepK m0 t0 x b) m1 t1 rfl rfl h1 u1 (hB.step h0 u0 hx).1 ((hB.step h0 u0 hx).2 x hx) ((P.stepK_row hlt).1.trans hxx) (Nat.lt_of_lt_of_le hlt (P.stepK_row hlt).2)
theorem stepK_set {m : List Nat} {t : Int} {x : Nat} {b : P.BS} (hz : (b.mark.getD (m.getD x 0) 0 == 0) = true) : P.stepK m t x b = { b with mark := b.mark.set (m.getD x 0) (b.mark.getD x 0 * t), row := b.row ++ [m.getD x 0] } := by unfold P.stepK; rw [if_pos (by simpa using hz)]
theorem stepK_bad {m : List Nat} {t : Int} {x : Nat} {b : P.BS} (hz : (b.mark.getD (m.getD x 0) 0 == 0) = false) (hq : (!(b.mark.getD (m.getD x 0) 0 == b.mark.getD x 0 * t)) = true) : P.stepK m t x b = { b with great := false } := by unfold P.stepK; rw [if_neg (by simpa using hz), if_pos (by simpa using hq)]
theorem stepK_id {m : List Nat} {t : Int} {x : Nat} {b : P.BS} (hz : (b.mark.getD (m.getD x 0) 0 == 0) = false) (hq : (!(b.mark.getD (m.getD x 0) 0 == b.mark.getD x 0 * t)) = false) : P.stepK m t x b = b := by unfold P.stepK; rw [if_neg (by simpa using hz), if_neg (by simpa using hq)]
theorem kind_new {m0 m1 : List Nat} {t0 t1 : Int} {cs : List Nat} {N i : Nat} {st : List Int × List P.Kind} {b : P.BS} (hz : st.1.getD i 0 = 0) (hb : b = P.bfs m0 m1 t0 t1 N 0 ⟨st.1.set i 1, [i], true⟩) : P.kindStep m0 m1 t0 t1 cs N st i = (b.mark, st.2 ++ [(i, cs.getD i 0, b.great)]) := by unfold P.kindStep; rw [if_pos hz, hb]
theorem kind_old {m0 m1 : List Nat} {t0 t1 : Int} {cs : List Nat} {N i : Nat} {st : List Int × List P.Kind} (hz : (st.1.getD i 0 == 0) = false) : P.kindStep m0 m1 t0 t1 cs N st i = st := by unfold P.kindStep; rw [if_neg (by simpa using hz)]
theorem Iter.two {prog : Program} {w : World} {A : Around} {c : Cx} {K : KP} {I : Addr} {h : Heap} (W : Iter prog w A c K I [PyData.int 0, .int 1].length (fun i v => ∃ d, [PyData.int 0, .int 1][i]? = some d ∧ Rd K v d) h) : Iter prog w A c K I 2 (Chu PRng) h :=
  W.imp rfl fun i v hi ⟨d, hd, rd⟩ C k => by
    match i, hi with
    | 0, _ => cases hd; exact rd.intC k
    | 1, _ => cases hd; exact rd.intC k
set_option maxHeartbeats 4000000 in
theorem kinds_spec {prog : Program} {w : World} {A : Around} {E : Value → Shared → Prop} {s : Shared} {K : KP} {m0 m1 : List Nat} {t0 t1 : Int} {n k : Nat} {vM vT : Value} {Q : Value → Shared → Prop}
    (hF : Fun K 318 kindsFd) (hG : GB K gl bl) (hK : ∀ b o, K b o → s.heap.get? b = some o) (hA : AOk A (k + 1))
    (hM : Rd K vM (.list [dInts m0, dInts m1])) (hT : Rd K vT (.list [.int t0, .int t1])) (h0 : P.Mv (2 ^ n) m0) (h1 : P.Mv (2 ^ n) m1) (u0 : P.unit t0) (u1 : P.unit t1) (hn : n ≤ 6)
    (h : ∀ v K' s', Ret K s [] s.gens K' s' → Rd K' v (.list ((P.kindsL m0 m1 t0 t1 n).map dKind)) → Q v s') :
    wpAny (model prog w) A (call (.ref 318) [vM, vT]) Q E s := by
  refine call_fun (vals := [some vM, some vT, none, none, none, none, none, none, none, none, none, none]) hF hG hK hA kinds_scope (ps := ["moved", "turns"]) (ls := ["counts", "mark", "kinds", "first", "row", "great", "at", "k", "to", "sign"]) rfl rfl rfl (fun _ _ _ _ _ => rfl) fun L env s₁ A Nn hL hA he S hNn => ?_
  kspl_open gv
  -- counts = [0]
  kspl_open go
  refine nw_list S fun a s₁ S => ?_
  kspl_open sv
  kspl_open fz
  have rc := rdl_new (K := K) (a := a) ho (.cons (.int 0 t) .nil)
  have hle : Le K (K.add a o) := le_add _ _ _
  -- while
  kspl_open go
  kspl_open bk
  refine while_j n (kJ1 n vM vT) S (fun _ kJ => kJ 0 _ rfl rc) ?_
  intro m K₁ s₁ E' Nn Nf hle₁ hNl hNx hNf k v hk rc S
  kspl_open gv
  have hle := hle.trans hle₁
  have hG := hG.mono hle
  have hM := hM.mono hle
  have hcl : ((P.cnt k).map dI).length = 2 ^ k := by rw [List.length_map, P.cnt_length]
  have hkz : 2 ^ k < 2 ^ 10 := Nat.pow_lt_pow_right (by decide) (by exact om128 hn hk)
  have hnz : 2 ^ n < 2 ^ 10 := Nat.pow_lt_pow_right (by decide) (by exact om127 hn)
  kspl_open go
  refine c_len_rd S rc.rd (by exact om116 hcl hkz) fun t s₁ S => ?_
  kspl_open go
  refine sub_rd S hM (i := 0) rfl rfl (by decide) fun x rx => ?_
  kspl_open go
  have hml : (m0.map dI).length = 2 ^ n := by rw [List.length_map, h0.len]
  refine c_len_rd S rx (by exact om126 hnz hml) fun t s₁ S => ?_
  kspl_open go
  rw [hcl, hml]
  refine ite_d (fun hlt => ?_) fun hge => ?_
  · kspl_open go
    refine ev_comp (cl := []) (closureFor_none (by decide)) rfl (by decide) ?_
    kspl_open go
    refine it_rd S hA.handled rc.rd fun I s₁ S W => ?_
    refine cmp_map (cgn := []) ((P.cnt k).map fun x => dI (x + 1)) S W.nats (by decide) rfl (comp_env he rfl (by decide) (fun _ h => nomatch h)) ?_ ?_ ?_ ?_
    · rw [P.cnt_length]; show 2 ^ k ≤ 2 ^ 24; exact Nat.pow_le_pow_right (by decide) (by exact om125 hn hk)
    · rw [List.length_map]
    · intro i K₂ ys s₁ PI C D E' Nn hi hle₂ he hC hNl x t hx S
      kspl_open go
      exact hNl _ _ _ _ _ (gm hx) (Le.refl _) (.int _ _) S
    · intro K₂ ys s₁ D hle₂ hr S
      have hkn : k < n := by
        rcases Nat.lt_or_ge k n with h | h
        · exact h
        · have := Nat.pow_le_pow_right (n := 2) (by decide) h
          exact (om123 hlt this).elim
      refine b_catL S (rc.mono hle₂) (.tail _ (.head _)) ?_ fun d s₁ vs rv S => ?_
      · rw [hr.length, List.length_map, List.length_map, P.cnt_length]; show _ ≤ 2 ^ 24; exact om122 hnz hlt
      kspl_open go
      refine St.frz S List.not_mem_nil fun o ho S => ?_
      have S := S.drop1
      refine hNl _ (m - 1) _ _ _ _ rfl (by exact om121 hk hkn) (hle₂.trans (le_add _ _ _)) (fun _ kJ => kJ (k + 1) _ (by exact om120 hk hkn) (rdl_new ho ?_)) (S.unV hLv)
      rw [P.cnt, List.map_append, List.map_map]
      exact (rv.append hr).mono (le_add _ _ _)
  · have hkn : k = n := by
      rcases Nat.lt_or_ge k n with h | h
      · have := Nat.pow_lt_pow_right (a := 2) (by decide) h
        exact (om119 hge this).elim
      · exact om118 hk h
    have rc : RdL K₁ v ((P.cnt n).map dI) := hkn ▸ rc
    have hcl : ((P.cnt n).map dI).length = 2 ^ n := by rw [List.length_map, P.cnt_length]
    clear hge hkn hk hkz
    kspl_open go
    -- mark = [0] * len(counts)
    refine nw_list S fun a s₁ S => ?_
    kspl_open go
    refine c_len_rd S rc.rd (by exact om116 hcl hnz) fun t s₁ S => ?_
    kspl_open go
    refine' b_rep S hL ?zm (by exact om1) (by exact om117 hcl hnz) ?_
    case zm => kspl_open me
    intro d s₁ S
    kspl_open go
    have S := S.drop2
    refine nw_list S fun aK s₁ S => ?_
    kspl_open go
    refine c_len_rd S rc.rd (by exact om116 hcl hnz) fun t s₁ S => ?_
    kspl_open go
    refine c_range S fun r s₁ K₂ hle₂ S hr => ?_
    refine it_rng S hA.handled hr (congrArg Int.ofNat hcl) (Nat.lt_trans hnz (by decide)) fun I s₁ S W => ?_
    kspl_open bk
    refine for_j (fun i => kJ2 vM vT v d aK (kst m0 m1 t0 t1 n i)) S hL W (fun _ kJ => kJ _ _ _ _ _ _ _ _ _ ?_ .nil) ?_ ?_
    · show RdAll _ _ ((List.replicate (2 ^ n) (0 : Int)).map PyData.int)
      rw [hcl, Int.toNat_natCast, List.map_replicate]
      exact rd_rep (.int _ _) _
    · intro i K₃ s₁ PI E' Nn hi hle₃
      have hMI : P.MInv _ (kst m0 m1 t0 t1 n i).1 := P.kind_fold (cs := P.cnt n) h0 h1 u0 u1 i (by exact om112 hi)
      have hkc : (kst m0 m1 t0 t1 n i).2.length ≤ i := P.kind_count i
      have e1 := @kst_succ m0 m1 t0 t1 n i
      generalize kst m0 m1 t0 t1 n i = st at e1 hMI hkc ⊢
      generalize kst m0 m1 t0 t1 n (i + 1) = st1 at e1 ⊢
      intro hNl hNx f r gr at_ kk to sg mv kv hmv hkv S tf
      kspl_open gv
      refine wpAny_assign_Name ?_
      kspl_open go
      refine' sub_int (S.listAt ?zm) hmv (by rw [hMI.len]; exact hi) (by exact om101 hnz hi) fun tm => ?_
      case zm => kspl_open me
      kspl_open go
      refine ite_b (fun hz => ?_) fun hz => ?_
      · have hz : st.1.getD i 0 = 0 := by simpa using hz
        have hle' : Le K K₃ := (hle.trans hle₂).trans hle₃
        kspl_open go
        have hmvl : mv.length = 2 ^ n := by rw [hmv.length, List.length_map, hMI.len]
        kspl_open sl
        kspl_open go
        refine nw_list S fun aR s₁ S => ?_
        kspl_open go
        have hB := P.BInv.start hMI hi hz
        have hM := hM.mono (hle₂.trans hle₃)
        have hT := hT.mono hle'
        have hG := hG.mono (hle₂.trans hle₃)
        kspl_open bk
        refine while_j (2 ^ n) (kJ3 vM vT v (.int i tf) d aK aR I PI kv (2 ^ n) (P.bfs m0 m1 t0 t1) (P.bfs m0 m1 t0 t1 (2 ^ n) 0 ⟨st.1.set i 1, [i], true⟩)) S (fun _ kJ => kJ 0 ⟨st.1.set i 1, [i], true⟩ _ _ _ _ _ _ rfl rfl hB (by rw [List.map_set]; exact hmv.set i (.int 1 _)) (.cons (.int _ _) .nil)) ?_
        intro m K₄ s₁ E' Nn Nf hle₄ hNw hNx hNf at_ b ta kk to sg mv rv hm hb hB hmv hrv S
        kspl_open gv
        have hG := hG.mono hle₄
        have hrl : rv.length = b.row.length := by rw [hrv.length, List.length_map]
        have hbl := hB.rlen
        kspl_open go
        kspl_open ln
        kspl_open go
        rw [hrl]
        refine ite_d (fun hlt => ?_) fun hge => ?_
        · have hlt : at_ < b.row.length := by exact om110 hlt
          have hx : b.row.getD at_ 0 ∈ b.row := by simp [List.getD_eq_getElem?_getD, hlt]
          have hm1 : m = (m - 1) + 1 := by exact om109 hm hbl hlt
          generalize m - 1 = p at hm1
          have hb' : P.bfs m0 m1 t0 t1 p (at_ + 1) (P.itB m0 m1 t0 t1 (b.row.getD at_ 0) b 2) = P.bfs m0 m1 t0 t1 (2 ^ n) 0 ⟨st.1.set i 1, [i], true⟩ := by
            rw [← hb, hm1]; conv => rhs; rw [P.bfs, if_pos hlt]
            rfl
          generalize hxx : b.row.getD at_ 0 = x at hx hb'
          have hxN := (hB.row x hx).1
          kspl_open go
          refine nw_tuple S (.cons (.int _ _) (.cons (.int _ _) .nil)) fun aT s₁ K₅ hle₅ S rT => ?_
          refine it_tup S hA.handled rT fun I2 s₁ S W2 => ?_
          kspl_open bk
          refine for_j (fun j => kJ4 vM vT v (.int i tf) (.int (at_ : Nat) ta) d aK aR I PI kv (P.itB m0 m1 t0 t1 x b j)) S hL (Iter.two W2) (fun _ kJ => kJ _ _ _ _ _ (hmv.mono hle₅) (hrv.mono hle₅)) ?_ ?_
          · intro j K₆ s₁ PI2 E' Nn hj hle₆
            have ks := kstep h0 h1 u0 u1 hB hx hxx hlt hj
            generalize P.itB m0 m1 t0 t1 x b j = b0 at ks ⊢
            generalize P.itB m0 m1 t0 t1 x b (j + 1) = b1 at ks ⊢
            cases ks with | mk mj tj hmj htj hMj uj hB hx hxx hlt
            intro hNl hNx kk to sg mv rv hmv hrv S tk
            kspl_open gv
            have hleJ := (hle₄.trans hle₅).trans hle₆
            have hM := hM.mono hleJ
            have hT := hT.mono hleJ
            have hG := hG.mono (hle₅.trans hle₆)
            have hrl : rv.length = b0.row.length := by rw [hrv.length, List.length_map]
            have hml : mv.length = 2 ^ n := by rw [hmv.length, List.length_map, hB.len]
            have hbl := hB.rlen
            have htN := hMj.lt x hxN
            have hmd : (mj.map dI)[x]? = some (dI (mj.getD x 0)) := by
              simp [List.getElem?_map, List.getD_eq_getElem?_getD, hMj.len, hxN]
            refine wpAny_assign_Name ?_
            kspl_open go
            refine sub_rd S hM rfl hmj (by exact om107 hj) fun vm rm => ?_
            kspl_open go
            refine' sub_nat (S.listAt ?zm) hrv hlt (by exact om108 hnz hlt hbl) fun tx => ?_
            case zm => kspl_open me
            rw [hxx]
            refine sub_rdI S rm hmd (by exact om101 hnz hxN) fun tt => ?_
            kspl_open go
            refine' sub_nat (S.listAt ?zm) hrv hlt (by exact om108 hnz hlt hbl) fun tx => ?_
            case zm => kspl_open me
            rw [hxx]
            refine' sub_int (S.listAt ?zm) hmv (by rw [hB.len]; exact hxN) (by exact om101 hnz hxN) fun tm => ?_
            case zm => kspl_open me
            kspl_open go
            refine sub_rdI S hT htj (by exact om107 hj) fun tt => ?_
            refine b_mul S (IntMulOk.of_right (unit_bits (.inr uj))) fun ts s₁ S => ?_
            kspl_open go
            refine' sub_int (S.listAt ?zm) hmv (by rw [hB.len]; exact htN) (by exact om101 hnz htN) fun tn => ?_
            case zm => kspl_open me
            kspl_open go
            refine ite_b (fun hz => ?_) fun hz => ?_
            · kspl_open go
              kspl_open sl
              kspl_open go
              kspl_open ma
              kspl_open go
              kspl_open ap
              kspl_open go
              kspl_open nx
              refine kJ4_to (stepK_set hz) kJ _ _ _ _ _ ?_ ?_
              · rw [List.map_set]; exact hmv.set _ (.int _ _)
              · rw [List.map_append]; exact hrv.snoc (.int _ _)
            · kspl_open go
              refine' sub_int (S.listAt ?zm) hmv (by rw [hB.len]; exact htN) (by exact om101 hnz htN) fun tn => ?_
              case zm => kspl_open me
              kspl_open go
              refine ite_b (fun hq => ?_) fun hq => ?_
              · kspl_open go
                kspl_open nx
                exact kJ4_to (stepK_bad hz hq) kJ _ _ _ _ _ hmv hrv
              · kspl_open go
                kspl_open nx
                exact kJ4_to (stepK_id hz hq) kJ _ _ _ _ _ hmv hrv
          · intro K₆ s₁ hle₆ kk to sg mv rv hmv hrv S
            kspl_open gv
            kspl_open go
            exact hNw _ p _ _ _ _ rfl (m1_lt hm1) (hle₅.trans hle₆) (fun _ kJ => kJ (at_ + 1) _ _ _ _ _ _ _ (m1_add hm hm1) hb' (hB.stepB h0 h1 u0 u1 hx).1 hmv hrv) (S.unV hLv)
        · rw [P.bfs_stop (by exact om103 hge)] at hb
          have rc := rc.mono ((hle₂.trans hle₃).trans hle₄)
          have hkl : kv.length ≤ 2 ^ n := by rw [hkv.length, List.length_map]; exact om102 hi hkc
          kspl_open go
          kspl_open ma
          kspl_open go
          have hci : ((P.cnt n).map dI)[i]? = some (dI ((P.cnt n).getD i 0)) := by
            simp [List.getElem?_map, List.getD_eq_getElem?_getD, P.cnt_length, hi]
          refine sub_rdI S rc.rd hci (by exact om101 hnz hi) fun tc => ?_
          kspl_open go
          refine nw_tuple S (.cons (.int _ _) (.cons (.int _ _) (.cons (.bool _) .nil))) fun aT s₁ K₅ hle₅ S rT => ?_
          kspl_open go
          kspl_open ap
          kspl_open go
          refine hNl _ _ _ _ _ rfl (hle₄.trans hle₅) (fun _ kJ => kJ2_to (e1.trans (kind_new hz hb)) kJ _ _ _ _ _ _ _ _ _ (hmv.mono hle₅) ?_) (S.drop1.unV hLv)
          rw [List.map_append]
          exact (hkv.mono (hle₄.trans hle₅)).snoc rT
      · kspl_open go
        kspl_open nx
        exact kJ2_to (e1.trans (kind_old hz)) kJ _ _ _ _ _ _ _ _ _ hmv hkv
    · intro K₃ s₁ hle₃ f r gr at_ kk to sg mv kv hmv hkv S
      kspl_open gv
      kspl_open go
      refine St.frz S List.not_mem_nil fun o ho S => ?_
      exact h _ _ _ S.ret (rd_new ho (hkv.mono (le_add _ _ _)))
end

section
abbrev movedFd : Fd := fdOf (topS 22)
abbrev movedN : List Str := ["image", "rows", "place"]
theorem moved_scope : ScopeOkC movedFd.S movedN [] := by
  refine ⟨by rfl, by decide +kernel, by decide +kernel, (fun _ h => nomatch h), by exact ⟨rfl, rfl⟩⟩

def mJ (vM : Value) (L : Addr) (rows : List Nat) (K : KP) (C : JC) : Prop := ∀ v pl u, RdL K v (rows.map dI) → C [some vM, some v, pl] [(L + 1, CellO u)]
set_option maxHeartbeats 4000000 in
theorem moved_spec {prog : Program} {w : World} {A : Around} {E : Value → Shared → Prop} {s : Shared} {K : KP} {image : List Nat} {k : Nat} {vM : Value} {Q : Value → Shared → Prop}
    (hF : Fun K 313 movedFd) (hG : GB K gl bl) (hK : ∀ b o, K b o → s.heap.get? b = some o) (hA : AOk A (k + 1))
    (hM : Rd K vM (dInts image)) (hn : image.length ≤ 6) (hp : ∀ p ∈ image, p ≤ 6)
    (h : ∀ v K' s', Ret K s [] s.gens K' s' → Rd K' v (dInts (P.movedL image)) → Q v s') :
    wpAny (model prog w) A (call (.ref 313) [vM]) Q E s := by
  refine call_funC (vals := [some vM, none, none]) (fun n => [("bit", n)]) hF hG hK hA moved_scope (ps := ["image"]) (ls := ["rows", "place"]) rfl rfl rfl (fun _ _ _ _ _ => rfl) (fun _ => rfl) (by intro n p hp; rw [List.mem_singleton.mp hp]; rfl) fun L env s₁ A Nn hL hA he hcs hsc S hNn => ?_
  kspl_open gv
  have hk : env.kindOf "bit" = some .cell := by unfold Env.kindOf; rw [hsc]; rfl
  have hc : CelF env "bit" (L + 1) := ⟨.inl hk, by rw [hcs]; rfl, by decide, by decide⟩
  kspl_open go
  refine nw_list S fun a s₁ S => ?_
  kspl_open sv
  refine St.frzL S List.not_mem_nil (ds := (P.movedL []).map dI) (.cons (.int 0 t) .nil) fun K₀ hle rc S => ?_
  kspl_open go
  refine it_rd S hA.handled (hM.mono hle) fun I s₁ S W => ?_
  kspl_open bk
  refine for_j (fun i => mJ vM L (P.movedL (image.take i))) S hL W.nats (fun _ kJ => kJ _ _ _ rc) ?_ ?_
  · intro i K₁ s₁ PI E' Nn hi hle₁ hNl hNx v pl u rc S p tp hpi
    kspl_open gv
    have hp6 : p ≤ 6 := hp p (List.mem_of_getElem? hpi)
    have hml : (P.movedL (image.take i)).length ≤ 2 ^ 6 := by
      rw [P.movedL_length]
      exact Nat.pow_le_pow_right (by decide) (by rw [List.length_take]; exact om132 hn)
    refine wpAny_assign_Name ?_
    kspl_open go
    refine b_pow S (by exact om1) (by exact om131 hp6) (by decide) fun t s₁ S => ?_
    kspl_open stc
    have e2 : (2 : Int) ^ (p : Int).toNat = ((2 ^ p : Nat) : Int) := by rw [Int.toNat_natCast, Int.natCast_pow]; rfl
    rw [e2] at S
    kspl_open go
    refine ev_comp (cl := [("bit", L + 1)]) ?_ rfl (by decide) ?_
    · rw [closureFor_of (fun x hx hf => ?_), hcs]
      · rfl
      · rw [hcs]
        refine ⟨L + 1, ?_⟩
        have : x ∈ [((".0" : Str), NameKind.local), ("row", .local), ("bit", .free)] := hx
        simp only [List.mem_cons, List.not_mem_nil, or_false] at this
        rcases this with rfl | rfl | rfl
        · cases hf
        · cases hf
        · rfl
    kspl_open go
    refine it_rd S hA.handled rc.rd fun I2 s₁ S W2 => ?_
    refine cmp_map (cgn := []) ((P.movedL (image.take i)).map fun x => dI (x + 2 ^ p)) S W2.nats (by decide) rfl (comp_env he rfl (by decide) (fun _ h => nomatch h)) (by show _ ≤ 2 ^ 24; exact om130 hml) (by rw [List.length_map]) ?_ ?_
    · intro j K₂ ys s₁ PI2 C D E' Nn hj hle₂ he' hC hNl x tx hx S
      have he := he'
      have hc := he'.cel hc rfl rfl
      kspl_open go
      kspl_open cel
      kspl_open go
      exact hNl _ _ _ _ _ (gm hx) (Le.refl _) (.int _ _) S
    · intro K₂ ys s₁ D hle₂ hr S
      refine b_catL S (rc.mono hle₂) (.tail _ (.head _)) ?_ fun d s₁ vs rv S => ?_
      · rw [hr.length, List.length_map, List.length_map]; show _ ≤ 2 ^ 24; exact om129 hml
      kspl_open go
      have e : P.movedL (image.take (i + 1)) = P.movedL (image.take i) ++ (P.movedL (image.take i)).map fun x => x + 2 ^ p := by
        rw [List.take_add_one, hpi]; exact P.movedL_snoc ..
      refine St.frzL S List.not_mem_nil (ds := (P.movedL (image.take (i + 1))).map dI) (by rw [e, List.map_append, List.map_map]; exact rv.append hr) fun K₃ hle₃ rc S => ?_
      exact hNl _ _ _ _ _ rfl (hle₂.trans hle₃) (fun _ kJ => kJ _ _ _ rc) (S.drop1.unV hLv)
  · intro K₁ s₁ hle₁
    rw [List.take_of_length_le (Nat.le_refl _)]
    intro v pl u rc S
    kspl_open gv
    kspl_open go
    exact h _ _ _ S.ret rc.rd
end

section
abbrev renFd : Fd := fdOf (topS 21)
abbrev renN : List Str := ["order", "sizes", "image", "turn", "at", "size", "block", "k"]
abbrev renG : List Str := ["sorted", "range", "len"]
theorem ren_scope : ScopeOk renFd.S renN renG := by
  refine ⟨by rfl, by decide, by decide +kernel, by decide +kernel, by decide +kernel, by exact ⟨rfl, rfl⟩⟩
theorem RdAll.intsN {K : KP} {l : List Nat} {vs : List Value} (h : RdAll K vs (l.map dI)) : IntsAre vs (l.map fun x : Nat => (x : Int)) := by
  refine RdAll.ints (K := K) ?_
  rw [List.map_map]; exact h

def rJ1 (vO vS : Value) (aI : Addr) (r : P.RS) (K : KP) (C : JC) : Prop := ∀ tu ta sz bl kk vi, RdAll K vi (r.image.map dI) → C [some vO, some vS, some (.ref aI), some (.int r.turn tu), some (.int (r.at_ : Nat) ta), sz, bl, kk] [(aI, LpO vi)]
theorem rJ1_to {vO vS : Value} {aI : Addr} {r r' : P.RS} {K : KP} {C : JC} (e : r = r') (h : rJ1 vO vS aI r K C) : rJ1 vO vS aI r' K C := e ▸ h
def rJ2 (vO vS tv zv bv : Value) (av : Int) (aI I : Addr) (PI : Pr) (im : List Nat) (K : KP) (C : JC) : Prop := ∀ kk vi ta, RdAll K vi (im.map dI) → C [some vO, some vS, some (.ref aI), some tv, some (.int av ta), some zv, some bv, kk] [(I, PI), (aI, LpO vi)]
def rst (order sizes : List Nat) (i : Nat) : P.RS := (sizes.take i).foldl (P.renStep order) ⟨List.range order.length, 1, 0⟩
theorem rst_succ {order sizes : List Nat} {i z : Nat} (h : sizes[i]? = some z) : rst order sizes (i + 1) = P.renStep order (rst order sizes i) z := by
  rw [rst, List.take_add_one, h, List.foldl_append]; rfl
theorem ren_even {order block : List Nat} {r : P.RS} {z : Nat} (hb : P.blockOf order r.at_ z = block) (h : block.length % 2 = 0) : P.renStep order r z = ⟨P.renIn block r.image block.length, -r.turn, r.at_ + z⟩ := by
  subst hb; unfold P.renStep; rw [if_pos h]
theorem ren_odd {order block : List Nat} {r : P.RS} {z : Nat} (hb : P.blockOf order r.at_ z = block) (h : ¬ block.length % 2 = 0) : P.renStep order r z = ⟨P.renIn block r.image block.length, r.turn, r.at_ + z⟩ := by
  subst hb; unfold P.renStep; rw [if_neg h]
section
variable {prog : Program} {w : World} {A : Around} {E : Value → Shared → Prop} {c : Cx} {g : Gs} {K : KP} {rest : Own} {s : Shared} {L : Addr} {mv : Mm}
theorem c_sortO {order : List Nat} {v : Value} {n : Nat} {Q : Value → Shared → Prop} (S : St c g K ((L, NsO mv) :: rest) s) (hL : c.h0.objs.size ≤ L) (hO : Rd K v (dInts order)) (hp : order.Perm (List.range n)) (hn : n ≤ 6)
    (h : ∀ d s' vs', RdAll K vs' ((List.range n).map dI) → St c g K ((L, NsO mv) :: (d, LpO vs') :: rest) s' → Q (.ref d) s') : wpAny (model prog w) A (call (.builtin "sorted") [v]) Q E s := by
  obtain ⟨aO, vs, rfl, hl, rO⟩ := S.rdList hO
  have hvl : vs.length = n := by rw [rO.length, List.length_map, hp.length_eq, List.length_range]
  refine c_sorted S hL hl rO.intsN (by exact om145 hn hvl) fun aI s₁ vs' ns' hi' hp' hs' S => h aI s₁ vs' ?_ S
  rw [sorted_range hp hp' hs'] at hi'
  have := Mine.IntsAre.rd (K := K) hi'
  rw [List.map_map] at this; exact this
theorem sl_blk {value slice : Expr} {order : List Nat} {v : Value} {x z : Nat} {y : Int} {t u : Tok} {Q : Value → Shared → Prop} (S : St c g K ((L, NsO mv) :: rest) s) (hL : c.h0.objs.size ≤ L) (hO : Rd K v (dInts order)) (hn : order.length ≤ 6) (e : y = ((x + z : Nat) : Int))
    (h : ∀ d s' us, RdAll K us ((P.blockOf order x z).map dI) → St c g K ((L, NsO mv) :: (d, LpO us) :: rest) s' → Q (.ref d) s')
    (hs : ∀ a, subscripted slice false (.ref a) (.ref s.heap.objs.size) = operate [.ref s.heap.objs.size, .ref a] (getItem (.ref a) (.ref s.heap.objs.size)) := by intro _; with_unfolding_all rfl)
    (hg : ∀ a r, letTemporaryGo value (.ref a) r = pure () := by intro _ _; with_unfolding_all rfl) :
    wpAny (model prog w) A (subscriptTail value slice v (.ref s.heap.objs.size)) Q E { s with heap := s.heap.push { cls := .type "slice", data := .fields #[.int x t, .int y u, .none] } } := by
  subst e
  obtain ⟨aO, vs, rfl, hl, rO⟩ := S.rdList hO
  refine sl_ls S hL hl (.int _ _) (.int _ _) (by rw [rO.length, List.length_map]; exact Nat.le_trans hn (by decide)) (fun aB s₁ S => ?_) (hs _) (hg _)
  simp only [Option.elim, clipAt_nat, P.clip_slice] at S
  refine h _ _ _ ?_ S
  have := (rO.drop x).take z
  rw [P.blockOf, List.map_take, List.map_drop]; exact this
end
set_option maxHeartbeats 4000000 in
theorem ren_spec {prog : Program} {w : World} {A : Around} {E : Value → Shared → Prop} {s : Shared} {K : KP} {order sizes : List Nat} {k n : Nat} {vO vS : Value} {Q : Value → Shared → Prop}
    (hF : Fun K 308 renFd) (hG : GB K gl bl) (hK : ∀ b o, K b o → s.heap.get? b = some o) (hA : AOk A (k + 1))
    (hO : Rd K vO (dInts order)) (hS : Rd K vS (dInts sizes)) (hp : order.Perm (List.range n)) (hn : n ≤ 6) (hz : ∀ z ∈ sizes, z ≤ 6) (hsl : sizes.length ≤ 6)
    (h : ∀ v K' s', Ret K s [] s.gens K' s' → Rd K' v (.tuple [dInts (P.renL order sizes).image, .int (P.renL order sizes).turn]) → Q v s') :
    wpAny (model prog w) A (call (.ref 308) [vO, vS]) Q E s := by
  have hol : order.length = n := by rw [hp.length_eq, List.length_range]
  refine call_fun (vals := [some vO, some vS, none, none, none, none, none, none]) hF hG hK hA ren_scope (ps := ["order", "sizes"]) (ls := ["image", "turn", "at", "size", "block", "k"]) rfl rfl rfl (fun _ _ _ _ _ => rfl) fun L env s₁ A Nn hL hA he S hNn => ?_
  kspl_open gv
  kspl_open go
  refine c_sortO S hL hO hp hn fun aI s₁ vs' r0 S => ?_
  kspl_open go
  refine it_rd S hA.handled hS fun I s₁ S W => ?_
  kspl_open bk
  refine for_j (fun i => rJ1 vO vS aI (rst order sizes i)) S hL W.nats (fun _ kJ => kJ _ _ _ _ _ _ (by rw [← hol] at r0; exact r0)) ?_ ?_
  · intro i K₁ s₁ PI E' Nn hi hle₁
    have e1 := fun z => @rst_succ order sizes i z
    have hf : (rst order sizes i).image.length = n ∧ (rst order sizes i).at_ ≤ 36 := by
      have hf := P.ren_fold order (sizes.take i) ⟨List.range order.length, 1, 0⟩ 6 fun y hy => hz y (List.mem_of_mem_take hy)
      refine ⟨by rw [rst, hf.1, List.length_range, hol], ?_⟩
      have h1 := hf.2
      have h2 : (sizes.take i).length ≤ 6 := by rw [List.length_take]; exact om132 hsl
      simp only [Nat.zero_add] at h1
      exact om144 h2 h1
    generalize rst order sizes i = r at e1 hf ⊢
    generalize rst order sizes (i + 1) = r' at e1 ⊢
    intro hNl hNx tu ta sz bl kk vi ri S z tz hzi
    kspl_open gv
    have hz6 : z ≤ 6 := hz z (List.mem_of_getElem? hzi)
    have hG := hG.mono hle₁
    have hO := hO.mono hle₁
    have hril := hf.1
    have hat := hf.2
    refine wpAny_assign_Name ?_
    kspl_open go
    refine sl_blk S hL hO (by rw [hol]; exact hn) rfl fun aB s₁ us rB S => ?_
    refine St.frzL S List.not_mem_nil rB fun K₂ hle₂ rc S => ?_
    have hG := hG.mono hle₂
    have hbm : ∀ x ∈ P.blockOf order r.at_ z, x < n := fun x hx => List.mem_range.mp (hp.mem_iff.mp (P.blockOf_mem hx))
    have hbl : (P.blockOf order r.at_ z).length ≤ 6 := by unfold P.blockOf; rw [List.length_take]; exact om141 hz6
    clear rB hf
    generalize hb : P.blockOf order r.at_ z = block at rc hbm hbl
    kspl_open go
    refine c_len_rd S rc.rd (by rw [List.length_map]; exact om136 hbl) fun t s₁ S => ?_
    rw [List.length_map]
    kspl_open go
    refine c_range S fun q s₁ K₃ hle₃ S hr => ?_
    refine it_rng S hA.handled hr rfl (Nat.lt_of_le_of_lt hbl (by decide)) fun I2 s₁ S W2 => ?_
    kspl_open bk
    refine for_j (fun j => rJ2 vO vS (.int r.turn tu) (.int z tz) (.ref aB) ((r.at_ : Int) + z) aI I PI (P.renIn block r.image j)) S hL W2 (fun _ kJ => kJ _ _ _ ((ri.mono hle₂).mono hle₃)) ?_ ?_
    · intro j K₄ s₁ PI2 E' Nn hj hle₄ hNl hNx kk vi ta ri S tj
      kspl_open gv
      have hG := hG.mono (hle₃.trans hle₄)
      have rc := rc.mono (hle₃.trans hle₄)
      have hvi : vi.length = n := by rw [ri.length, List.length_map, P.renIn_length, hril]
      refine wpAny_assign_Name ?_
      kspl_open go
      refine c_len_rd S rc.rd (by rw [List.length_map]; exact om136 hbl) fun t s₁ S => ?_
      rw [List.length_map]
      refine b_mod S (by exact om138 hj) fun t s₁ S => ?_
      have e1 : ((j : Int) + 1) = ((j + 1 : Nat) : Int) := by exact om106
      rw [e1, fmod_nat]
      have hmm : (j + 1) % block.length < block.length := Nat.mod_lt _ (by exact om41 hj)
      have hm1 : (block.map dI)[(j + 1) % block.length]? = some (dI (block.getD ((j + 1) % block.length) 0)) := by
        simp [List.getD_eq_getElem?_getD, hmm]
      have hm2 : (block.map dI)[j]? = some (dI (block.getD j 0)) := by
        simp [List.getD_eq_getElem?_getD, hj]
      have hlt : block.getD j 0 < n := hbm _ (by simp [List.getD_eq_getElem?_getD, hj])
      refine sub_rd S rc.rd rfl hm1 (by exact om137 hbl hmm) fun v1 r1 => ?_
      kspl_open go
      refine sub_rdI S rc.rd hm2 (by exact om137 hbl hj) fun t2 => ?_
      kspl_open go
      kspl_open sl
      kspl_open go
      kspl_open nx
      refine kJ _ _ _ ?_
      rw [P.renIn, List.map_set]
      exact ri.set _ r1
    · intro K₄ s₁ hle₄ kk vi ta ri S
      kspl_open gv
      have hG := hG.mono (hle₃.trans hle₄)
      have rc := rc.mono (hle₃.trans hle₄)
      kspl_open go
      refine c_len_rd S rc.rd (by rw [List.length_map]; exact om136 hbl) fun t s₁ S => ?_
      rw [List.length_map]
      kspl_open go
      refine b_mod S (by exact om135) fun t s₁ S => ?_
      have e2 : (2 : Int) = ((2 : Nat) : Int) := rfl
      rw [e2, fmod_nat]
      kspl_open go
      have hlee := hle₂.trans (hle₃.trans hle₄)
      refine ite_b (fun hz => ?_) fun hz => ?_
      · have hz : block.length % 2 = 0 := by simp at hz; exact om134 hz
        kspl_open go
        exact hNl _ _ _ _ _ rfl hlee (fun _ kJ => rJ1_to ((e1 z hzi).trans (ren_even hb hz)) kJ _ _ _ _ _ _ ri) (S.unV hLv)
      · have hz : ¬ block.length % 2 = 0 := by simp at hz; exact om133 hz
        kspl_open go
        exact hNl _ _ _ _ _ rfl hlee (fun _ kJ => rJ1_to ((e1 z hzi).trans (ren_odd hb hz)) kJ _ _ _ _ _ _ ri) (S.unV hLv)
  · intro K₁ s₁ hle₁ tu ta sz bl kk vi ri S
    kspl_open gv
    have er : rst order sizes sizes.length = P.renL order sizes := by rw [rst, List.take_of_length_le (Nat.le_refl _)]; rfl
    rw [er] at ri hLv
    kspl_open go
    refine St.frzL S List.not_mem_nil ri fun K₂ hle₂ rc S => ?_
    refine nw_tuple S (.cons rc.rd (.cons (.int _ _) .nil)) fun a s₁ K₂ hle₂ S rt => ?_
    kspl_open go
    exact h _ _ _ S.ret rt
end

section
abbrev apFd : Fd := fdOf (topS 6)
abbrev apN : List Str := ["num", "val", "AP", "mod"]
abbrev apG : List Str := ["int", "abs", "divmod"]
theorem ap_scope : ScopeOk apFd.S apN apG := by
  refine ⟨by rfl, by decide, by decide +kernel, by decide +kernel, by decide +kernel, by exact ⟨rfl, rfl⟩⟩
abbrev AP16 : List UInt8 := [65, 66, 67, 68, 69, 70, 71, 72, 73, 74, 75, 76, 77, 78, 79, 80]
theorem ap_pick : ∀ r : Nat, r < 16 → KBy.whole AP16.toArray (some (r : Int)) (some ((r + 1 : Nat) : Int)) = false ∧ KBy.picked AP16.toArray (some (r : Int)) (some ((r + 1 : Nat) : Int)) = #[UInt8.ofNat (65 + r)] := by decide +kernel
def apT (q : Nat) (bs : List UInt8) : List UInt8 := if q = 0 then bs else apB q ++ bs
theorem apT_step {q : Nat} {bs : List UInt8} (h0 : q ≠ 0) (h : q < 128) : apT (q / 16) (UInt8.ofNat (65 + q % 16) :: bs) = apT q bs := by
  unfold apT
  rw [if_neg h0]
  by_cases h1 : q < 16
  · rw [if_pos (by exact om160 h1)]
    unfold apB
    rw [if_pos h1, Nat.mod_eq_of_lt h1]; rfl
  · rw [if_neg (by exact om159 h1)]
    unfold apB
    rw [if_neg h1, if_pos (by exact om149 h)]; rfl

theorem as_int2 {prog : Program} {w : World} {A : Around} {E : Value → Shared → Prop} {c : Cx} {g : Gs} {K : KP} {rest : Own} {s : Shared} {env : Env} {p : Addr × Pr} {x y : Str} {px py pos : Pos} {k : Nat} {v : Value} {a b : Int} {Q : Unit → Shared → Prop} (S : St c g K (p :: rest) s) (hz : c.h0.objs.size ≤ p.1) (hA : A.handled = none) (hr : Rd K v (.tuple [.int a, .int b]))
    (h : ∀ t u s', St c g K (p :: rest) s' → wpAny (model prog w) A (storeName env x (.int a t)) (fun _ s₁ => wpAny (model prog w) A (storeName env y (.int b u)) Q E s₁) E s') :
    wpAny (model prog w) A (assign (.Tuple [.Name x px, .Name y py] k pos) env v) Q E s :=
  as_tup2 S hz hA hr fun v1 v2 s' S r1 r2 => by
    obtain ⟨t, rfl⟩ := r1.intE
    obtain ⟨u, rfl⟩ := r2.intE
    exact h t u s' S
def apJ (n q : Nat) (_ : KP) (C : JC) : Prop := ∀ (bs : List UInt8) tn tv ta md, q < 128 → bs.length ≤ 128 - q → apT q bs = apB n → C [some (.int (q : Nat) tn), some (.bytes bs.toArray tv), some (.bytes AP16.toArray ta), md] []
set_option maxHeartbeats 4000000 in
theorem ap_spec {prog : Program} {w : World} {A : Around} {E : Value → Shared → Prop} {s : Shared} {K : KP} {k n : Nat} {i : Int} {ti : Tok} {Q : Value → Shared → Prop}
    (hF : Fun K 118 apFd) (hG : GB K gl bl) (hK : ∀ b o, K b o → s.heap.get? b = some o) (hA : AOk A (k + 1)) (hi : i = n ∨ i = -(n : Int)) (h0 : n ≠ 0) (h1 : n < 128)
    (h : ∀ t K' s', Ret K s [] s.gens K' s' → Q (.bytes (apB n).toArray t) s') :
    wpAny (model prog w) A (call (.ref 118) [.int i ti]) Q E s := by
  refine call_fun (vals := [some (.int i ti), none, none, none]) hF hG hK hA ap_scope (ps := ["num"]) (ls := ["val", "AP", "mod"]) rfl rfl rfl (fun _ _ _ _ _ => rfl) fun L env s₁ A Nn hL hA he S hNn => ?_
  kspl_open gv
  kspl_open go
  refine c_abs S fun t s₁ S => ?_
  have ea : (if i < 0 then -i else i) = (n : Int) := by rcases hi with rfl | rfl <;> split <;> omega
  rw [ea]
  kspl_open go
  kspl_open bk
  refine while_j n (apJ n) S (fun _ kJ => kJ [] _ _ _ _ h1 (Nat.zero_le _) (by unfold apT; rw [if_neg h0, List.append_nil])) ?_
  intro q K₁ s₁ E' Nn Nf hle₁ hNl hNx hNf bs tn tv ta md hq hbl hT S
  kspl_open gv
  have hG := hG.mono hle₁
  kspl_open go
  refine ite_b (fun hz => ?_) fun hz => ?_
  · have hz : q ≠ 0 := by simp at hz; exact om158 hz
    kspl_open go
    have e16 : (16 : Int) = ((16 : Nat) : Int) := rfl
    refine c_divmod S (by decide) (PyProof.noPylong_small (by decide)) fun d s₁ K₂ hle₂ S hr => ?_
    rw [e16, fmod_nat, fdiv_nat] at hr
    refine as_int2 S hL hA.handled hr fun t1 t2 s₁ S => ?_
    kspl_open go
    have e1 : ((q % 16 : Nat) : Int) + 1 = ((q % 16 + 1 : Nat) : Int) := by exact om157
    rw [e1]
    have hp := ap_pick (q % 16) (Nat.mod_lt _ (by decide))
    refine sl_by S hL (.int _ _) (.int _ _) hp.1 (by rw [hp.2]; exact Nat.le_of_ble_eq_true rfl) fun tb s₁ S => ?_
    rw [hp.2]
    kspl_open go
    refine b_addb S (by simp; exact om156 hbl) fun tb s₁ S => ?_
    kspl_open go
    have e2 : #[UInt8.ofNat (65 + q % 16)] ++ bs.toArray = (UInt8.ofNat (65 + q % 16) :: bs).toArray := by simp
    rw [e2] at hLv
    exact hNl _ (q / 16) _ _ _ _ rfl (by exact om155 hz) hle₂ (fun _ kJ => kJ _ _ _ _ _ (by exact om154 hq) (by rw [List.length_cons]; exact om153 hq hbl hz) ((apT_step hz hq).trans hT)) (S.unV hLv)
  · have hz : q = 0 := by simp at hz; exact om152 hz
    kspl_open go
    have : bs = apB n := by rw [← hT, hz]; rfl
    rw [this]
    exact h _ _ _ S.ret

abbrev xfrmFd : Fd := fdOf (topS 8)
theorem xfrm_scope : ScopeOk xfrmFd.S ["s"] [] := by
  refine ⟨by rfl, by decide, by decide +kernel, (fun _ h => nomatch h), by decide +kernel, by exact ⟨rfl, rfl⟩⟩
theorem xfrm_spec {prog : Program} {w : World} {A : Around} {E : Value → Shared → Prop} {s : Shared} {K : KP} {k : Nat} {v : Value} {Q : Value → Shared → Prop}
    (hF : Fun K 125 xfrmFd) (hG : GB K gl bl) (hK : ∀ b o, K b o → s.heap.get? b = some o) (hA : AOk A (k + 1))
    (h : ∀ s', Ret K s [] s.gens K s' → Q v s') :
    wpAny (model prog w) A (call (.ref 125) [v]) Q E s := by
  refine call_fun (vals := [some v]) hF hG hK hA xfrm_scope (ps := ["s"]) (ls := []) rfl rfl rfl (fun _ _ _ _ _ => rfl) fun L env s₁ A Nn hL hA he S hNn => ?_
  kspl_open gv
  kspl_open go
  exact h _ S.ret

abbrev readFd : Fd := fdOf (topS 18)
abbrev readN : List Str := ["word", "number", "letter"]
theorem read_scope : ScopeOk readFd.S readN [] := by
  refine ⟨by rfl, by decide, by decide +kernel, (fun _ h => nomatch h), by decide +kernel, by exact ⟨rfl, rfl⟩⟩
theorem read_ix : ∀ r, r < 16 → Builtin.Str.occurrences (Str.ofString "ABCDEFGHIJKLMNOP") ⟨#[65 + r]⟩ 0 (Str.ofString "ABCDEFGHIJKLMNOP").length 1 = [r] := by decide +kernel
/-- what is read of the first i letters -/
def readUp (n i : Nat) : Nat := if n < 16 then (if i = 0 then 0 else n) else (if i = 0 then 0 else if i = 1 then n / 16 else n)
set_option maxRecDepth 10000 in
theorem read_step : ∀ n, n < 128 → n ≠ 0 → (ap n).cps.all (· < 128) = true ∧ (ap n).cps.size ≤ 2 ∧ readUp n (ap n).cps.size = n ∧ ∀ i, i < (ap n).cps.size → ∃ r, r < 16 ∧ (ap n).cps[i]? = some (65 + r) ∧ readUp n (i + 1) = 16 * readUp n i + r := by
  intro n hn h0
  unfold ap apB readUp
  by_cases h : n < 16
  · have e : (UInt8.ofNat (65 + n)).toNat = 65 + n := by rw [UInt8.toNat_ofNat']; omega
    simp only [if_pos h, List.map_cons, List.map_nil, e]
    refine ⟨by simp; exact om151 h, Nat.le_of_ble_eq_true rfl, rfl, fun i hi => ?_⟩
    have : i = 0 := by simpa using hi
    subst this
    exact ⟨n, h, rfl, by simp⟩
  · have e1 : (UInt8.ofNat (65 + n / 16)).toNat = 65 + n / 16 := by rw [UInt8.toNat_ofNat']; omega
    have e2 : (UInt8.ofNat (65 + n % 16)).toNat = 65 + n % 16 := by rw [UInt8.toNat_ofNat']; omega
    simp only [if_neg h, List.map_cons, List.map_nil, e1, e2]
    refine ⟨by simp; exact om150 hn, Nat.le_of_ble_eq_true rfl, rfl, fun i hi => ?_⟩
    have : i < 2 := by simpa using hi
    match i, this with
    | 0, _ => exact ⟨n / 16, by exact om149 hn, rfl, by simp⟩
    | 1, _ => exact ⟨n % 16, by exact om148, rfl, by simp; exact om147⟩

def rdJ (n : Nat) (tw : Tok) (i : Nat) (_ : KP) (C : JC) : Prop := ∀ tn lt, C [some (.str (ap n) tw), some (.int (readUp n i : Nat) tn), lt] []
def PRead (n i : Nat) (C : Value → Prop) : Prop := ∀ r u, r < 16 → readUp n (i + 1) = 16 * readUp n i + r → C (.str ⟨#[65 + r]⟩ u)
theorem Iter.read {prog : Program} {w : World} {A : Around} {c : Cx} {K : KP} {I : Addr} {n : Nat} {h : Heap} (W : Iter prog w A c K I (ap n).cps.size (fun i v => ∃ cc u, (ap n).cps[i]? = some cc ∧ v = .str ⟨#[cc]⟩ u) h)
    (hst : ∀ i, i < (ap n).cps.size → ∃ r, r < 16 ∧ (ap n).cps[i]? = some (65 + r) ∧ readUp n (i + 1) = 16 * readUp n i + r) : Iter prog w A c K I (ap n).cps.size (Chu (PRead n)) h :=
  W.imp rfl fun i v hi ⟨cc, u, hcc, e⟩ C k => by
    obtain ⟨r, hr, hc, hup⟩ := hst i hi
    rw [hcc] at hc
    cases hc
    rw [e]; exact k r u hr hup
set_option maxRecDepth 100000 in
set_option maxHeartbeats 4000000 in
theorem read_spec {prog : Program} {w : World} {A : Around} {E : Value → Shared → Prop} {s : Shared} {K : KP} {k n : Nat} {tw : Tok} {Q : Value → Shared → Prop}
    (hF : Fun K 287 readFd) (hG : GB K gl bl) (hK : ∀ b o, K b o → s.heap.get? b = some o) (hA : AOk A (k + 1)) (h0 : n ≠ 0) (h1 : n < 128)
    (h : ∀ t K' s', Ret K s [] s.gens K' s' → Q (.int n t) s') :
    wpAny (model prog w) A (call (.ref 287) [.str (ap n) tw]) Q E s := by
  have hrs := read_step n h1 h0
  have hr0 : readUp n 0 = 0 := by unfold readUp; simp
  refine call_fun (vals := [some (.str (ap n) tw), none, none]) hF hG hK hA read_scope (ps := ["word"]) (ls := ["number", "letter"]) rfl rfl rfl (fun _ _ _ _ _ => rfl) fun L env s₁ A Nn hL hA he S hNn => ?_
  kspl_open gv
  kspl_open go
  refine it_str S hA.handled hrs.1 fun I s₁ S W => ?_
  kspl_open bk
  refine for_j (rdJ n tw) S hL (W.read hrs.2.2.2) (fun _ kJ => by have := kJ t none; rw [hr0] at this; exact this) ?_ ?_
  · intro i K₁ s₁ PI E' Nn hi hle₁ hNl hNx tn lt S r u hr hup
    kspl_open gv
    refine wpAny_assign_Name ?_
    kspl_open go
    refine b_mul S (IntMulOk.of_left (by decide +kernel)) fun t s₁ S => ?_
    kspl_open go
    refine GM.index ?_
    kspl_open go
    refine c_index S (read_ix r hr) fun t s₁ S => ?_
    kspl_open go
    have e : (16 : Int) * (readUp n i : Nat) + (r : Nat) = (readUp n (i + 1) : Nat) := by rw [hup]; exact om146
    rw [e] at hLv
    kspl_open nx
    exact kJ _ _
  · intro K₁ s₁ hle₁ tn lt S
    kspl_open gv
    kspl_open go
    rw [hrs.2.2.1]
    exact h _ _ _ S.ret
end

section
abbrev plainFd : Fd := fdOf (topS 20)
abbrev plainN : List Str := ["first", "then", "many"]
theorem plain_scope : ScopeOk plainFd.S plainN [] := by
  refine ⟨by rfl, by decide, by decide +kernel, (fun _ h => nomatch h), by decide +kernel, by exact ⟨rfl, rfl⟩⟩
set_option maxHeartbeats 4000000 in
theorem plain_spec {prog : Program} {w : World} {A : Around} {E : Value → Shared → Prop} {s : Shared} {K : KP} {k a b n : Nat} {ta tb tn : Tok} {Q : Value → Shared → Prop}
    (hF : Fun K 301 plainFd) (hG : GB K gl bl) (hK : ∀ b o, K b o → s.heap.get? b = some o) (hA : AOk A (k + 1)) (h0 : a ≠ 0) (ha : a ≤ 6) (hb : b ≤ 127) (hn : n ≤ 6)
    (h : ∀ v K' s', Ret K s [] s.gens K' s' → Rd K' v (dInts (P.plainL a b n)) → Q v s') :
    wpAny (model prog w) A (call (.ref 301) [.int a ta, .int b tb, .int n tn]) Q E s := by
  refine call_fun (vals := [some (.int a ta), some (.int b tb), some (.int n tn)]) hF hG hK hA plain_scope (ps := ["first", "then", "many"]) (ls := []) rfl rfl rfl (fun _ _ _ _ _ => rfl) fun L env s₁ A Nn hL hA he S hNn => ?_
  kspl_open gv
  kspl_open go
  refine ite_b (fun hz => ?_) fun hz => ?_
  · have hz : b = 127 := by simp at hz; exact om183 hz
    kspl_open go
    refine nw_list S fun d s₁ S => ?_
    kspl_open go
    obtain ⟨o, ho, S⟩ := S.freeze1
    refine h _ _ _ S.ret (ho.rd (.inr ⟨rfl, rfl⟩) ?_)
    unfold P.plainL; rw [if_pos hz]
    exact .cons (.int _ _) .nil
  · have hz : ¬ b = 127 := by simp at hz; exact om182 hz
    kspl_open go
    refine ite_b (fun hy => ?_) fun hy => ?_
    · have hy : b = 0 := by simp at hy; exact om152 hy
      kspl_open go
      refine nw_list S fun d s₁ S => ?_
      kspl_open go
      refine b_div S (by exact om181 h0) (PyProof.noPylong_small (by omega)) fun t s₁ S => ?_
      have e1 : (n : Int) + (a : Int) - 1 = ((n + a - 1 : Nat) : Int) := by exact om180 h0
      rw [e1, fdiv_nat]
      have hd : (n + a - 1) / a ≤ n + a - 1 := Nat.div_le_self _ _
      have hd2 : (((n + a - 1) / a : Nat) : Int) ≤ 2 ^ 24 := by
        have := Int.ofNat_le.mpr hd
        exact om179 ha hn this
      refine' b_rep S hL ?zm (Int.natCast_nonneg _) hd2 ?_
      case zm => kspl_open me
      intro d2 s₁ S
      kspl_open go
      obtain ⟨o, ho, S⟩ := S.freeze1
      refine h _ _ _ S.ret (ho.rd (.inr ⟨rfl, rfl⟩) ?_)
      unfold P.plainL; rw [if_neg hz, if_pos hy, Int.toNat_natCast, List.map_replicate]
      exact rd_rep (.int _ _) _
    · have hy : ¬ b = 0 := by simp at hy; exact om178 hy
      kspl_open go
      refine ite_d (fun hx => ?_) fun hx => ?_
      · kspl_open go
        refine nw_list S fun d s₁ S => ?_
        kspl_open go
        obtain ⟨o, ho, S⟩ := S.freeze1
        refine h _ _ _ S.ret (ho.rd (.inr ⟨rfl, rfl⟩) ?_)
        unfold P.plainL; rw [if_neg hz, if_neg hy, if_pos (by exact om110 hx)]
        exact .cons (.int _ _) (.cons (.int _ _) .nil)
      · kspl_open go
        refine nw_list S fun d s₁ S => ?_
        kspl_open go
        obtain ⟨o, ho, S⟩ := S.freeze1
        refine h _ _ _ S.ret (ho.rd (.inr ⟨rfl, rfl⟩) ?_)
        unfold P.plainL; rw [if_neg hz, if_neg hy, if_neg (by exact om103 hx)]
        exact .cons (.int _ _) .nil

-- due
def upW (f : Nat) : Str := ⟨#[69 + f / 16, 65 + f % 16]⟩
def loW (f : Nat) : Str := ⟨#[101 + f / 16, 97 + f % 16]⟩
def wd (f : Nat) (g : Bool) : Str := if g then upW f else loW f
set_option maxRecDepth 100000 in
theorem wd_facts : ∀ f : Nat, f < 64 → Txt.item (Str.ofString "EFGH") ((f / 16 : Nat) : Int) ++ Txt.item (Str.ofString "ABCDEFGHIJKLMNOP") ((f % 16 : Nat) : Int) = upW f ∧ Txt.lower (upW f) = loW f ∧ Builtin.Str.tooLong (Txt.lower (upW f)).length = false := by decide +kernel
/-- what each size is due -/
def dueL (ks : List P.Kind) (n : Nat) : List (List Str) := ks.foldl (fun rows k => rows.set k.2.1 (rows.getD k.2.1 [] ++ [wd k.1 k.2.2])) (List.replicate (n + 1) [])
abbrev dDue (rows : List (List Str)) : PyData := .list (rows.map fun r => .list (r.map PyData.str))
theorem due_len (ks : List P.Kind) (rows : List (List Str)) : (ks.foldl (fun rows (k : P.Kind) => rows.set k.2.1 (rows.getD k.2.1 [] ++ [wd k.1 k.2.2])) rows).length = rows.length := by
  induction ks generalizing rows with
  | nil => rfl
  | cons k ks ih => rw [List.foldl_cons, ih, List.length_set]
theorem due_row (ks : List P.Kind) (rows : List (List Str)) (B : Nat) (hB : ∀ r ∈ rows, r.length ≤ B) : ∀ r ∈ ks.foldl (fun rows (k : P.Kind) => rows.set k.2.1 (rows.getD k.2.1 [] ++ [wd k.1 k.2.2])) rows, r.length ≤ B + ks.length := by
  induction ks generalizing rows B with
  | nil => simpa using hB
  | cons k ks ih =>
    rw [List.foldl_cons]
    intro r hr
    have := ih _ (B + 1) (fun r hr => ?_) r hr
    · rw [List.length_cons]; exact om15 this
    · rcases List.mem_or_eq_of_mem_set hr with h | h
      · have := hB r h; exact om72 this
      · subst h
        rw [List.length_append, List.length_singleton]
        have : (rows.getD k.2.1 []).length ≤ B := by
          by_cases hk : k.2.1 < rows.length
          · exact hB _ (by simp [List.getD_eq_getElem?_getD, hk])
          · simp [List.getD_eq_getElem?_getD, Nat.not_lt.mp hk]
        exact om177 this

abbrev dueFd : Fd := fdOf (topS 24)
abbrev dueN : List Str := ["kinds", "many", "size", "due", "first", "great", "word"]
theorem due_scope : ScopeOk dueFd.S dueN ["range"] := by
  refine ⟨by rfl, by decide, by decide +kernel, by decide +kernel, by decide +kernel, by exact ⟨rfl, rfl⟩⟩

def dJ (vK : Value) (n : Nat) (tn : Tok) (D : Addr) (as : List Addr) (rows : List (List Str)) (K : KP) (C : JC) : Prop := ∀ sz fi gr wo rs, rs.length = n + 1 → (∀ j, RdAll K (rs.getD j []) ((rows.getD j []).map PyData.str)) → C [some vK, some (.int n tn), sz, some (.ref D), fi, gr, wo] ((D, LpO (as.map Value.ref)) :: inn as rs)
theorem dJ_to {vK : Value} {n : Nat} {tn : Tok} {D : Addr} {as : List Addr} {rows rows' : List (List Str)} {K : KP} {C : JC} (e : rows = rows') (h : dJ vK n tn D as rows K C) : dJ vK n tn D as rows' K C := e ▸ h
theorem dueL_len (ks : List P.Kind) (n : Nat) : (dueL ks n).length = n + 1 := by unfold dueL; rw [due_len]; simp
theorem dueL_succ {ks : List P.Kind} {n i f z : Nat} {gg : Bool} (h : ks[i]? = some (f, z, gg)) : dueL (ks.take (i + 1)) n = (dueL (ks.take i) n).set z ((dueL (ks.take i) n).getD z [] ++ [wd f gg]) := by
  rw [List.take_add_one, h]; unfold dueL; rw [List.foldl_append]; rfl
theorem dueL_64 {ks : List P.Kind} {n i z : Nat} (hkl : ks.length ≤ 64) (hz : z ≤ n) : ((dueL (ks.take i) n).getD z []).length ≤ 64 := by
  have := due_row (ks.take i) (List.replicate (n + 1) []) 0 (fun r hr => by rw [List.eq_of_mem_replicate hr]; exact Nat.le_refl _) ((dueL (ks.take i) n).getD z []) (by
    show _ ∈ dueL (ks.take i) n
    rw [List.getD_eq_getElem?_getD, List.getElem?_eq_getElem (by exact om163 hz (dueL_len _ _))]; exact List.getElem_mem _)
  have h2 : (ks.take i).length ≤ 64 := by rw [List.length_take]; exact om172 hkl
  exact om171 this h2
def PKd (K : KP) (ks : List P.Kind) (i : Nat) (C : Value → Prop) : Prop := ∀ f z g v, ks[i]? = some (f, z, g) → Rd K v (.tuple [.int ((f : Nat) : Int), .int ((z : Nat) : Int), .bool g]) → C v
theorem Iter.kinds {prog : Program} {w : World} {A : Around} {c : Cx} {K : KP} {I : Addr} {ks : List P.Kind} {h : Heap} (W : Iter prog w A c K I (ks.map dKind).length (fun i v => ∃ d, (ks.map dKind)[i]? = some d ∧ Rd K v d) h) : Iter prog w A c K I ks.length (Chu (PKd K ks)) h :=
  W.map.imp rfl fun i v _ hv C k => hv C fun q v hq rd => k q.1 q.2.1 q.2.2 v hq rd
section
variable {prog : Program} {w : World} {A : Around} {E : Value → Shared → Prop} {c : Cx} {g : Gs} {K : KP} {rest : Own} {s : Shared} {env : Env}
theorem as_kind {p : Addr × Pr} {x y z : Str} {px py pz pos : Pos} {k : Nat} {v : Value} {a b : Int} {d : Bool} {Q : Unit → Shared → Prop} (S : St c g K (p :: rest) s) (hz : c.h0.objs.size ≤ p.1) (hA : A.handled = none) (hr : Rd K v (.tuple [.int a, .int b, .bool d]))
    (h : ∀ t u s', St c g K (p :: rest) s' → wpAny (model prog w) A (storeName env x (.int a t)) (fun _ s₁ => wpAny (model prog w) A (storeName env y (.int b u)) (fun _ s₂ => wpAny (model prog w) A (storeName env z (.bool d)) Q E s₂) E s₁) E s') :
    wpAny (model prog w) A (assign (.Tuple [.Name x px, .Name y py, .Name z pz] k pos) env v) Q E s :=
  as_tup3 S hz hA hr fun v1 v2 v3 s' S r1 r2 r3 => by
    obtain ⟨t, rfl⟩ := r1.intE
    obtain ⟨u, rfl⟩ := r2.intE
    cases r3.boolE
    exact h t u s' S
end
theorem due_all {K K' : KP} {as : List Addr} {rs : List (List Value)} {rows : List (List Str)} {n : Nat} (hal : as.length = n) (hrl : rs.length = n) (hdl : rows.length = n) (hrs : ∀ j, RdAll K (rs.getD j []) ((rows.getD j []).map PyData.str)) (hle : Le K K')
    (hfz : ∀ p ∈ inn as rs, ∃ o, K' p.1 o ∧ p.2 o) : RdAll K' (as.map Value.ref) (rows.map fun r => .list (r.map PyData.str)) := by
  refine RdAll.ofIdx ?_ fun i v d hv hd => ?_
  · rw [List.length_map, List.length_map, hal, hdl]
  · rw [List.getElem?_map] at hv hd
    obtain ⟨a, ha, rfl⟩ := Option.map_eq_some_iff.mp hv
    obtain ⟨r, hr, rfl⟩ := Option.map_eq_some_iff.mp hd
    have hi : i < as.length := (List.getElem?_eq_some_iff.mp ha).1
    have hq : rs[i]? = some rs[i] := List.getElem?_eq_getElem (by rw [hrl, ← hal]; exact hi)
    obtain ⟨o', k', ho'⟩ := hfz _ (inn_mem ha hq)
    have := hrs i
    rw [List.getD_eq_getElem?_getD, List.getD_eq_getElem?_getD, hq, hr] at this
    exact ho'.rd k' (this.mono hle)
theorem due_step {K : KP} {n z : Nat} {rs : List (List Value)} {rz : List Value} {rows : List (List Str)} {x : Str} {v : Value} (hrl : rs.length = n + 1) (hdl : rows.length = n + 1) (hz : z ≤ n) (hrz : rs[z]? = some rz) (hrs : ∀ j, RdAll K (rs.getD j []) ((rows.getD j []).map PyData.str)) (hv : Rd K v (.str x)) (j : Nat) :
    RdAll K ((rs.set z (rz ++ [v])).getD j []) (((rows.set z (rows.getD z [] ++ [x])).getD j []).map PyData.str) := by
  by_cases hj : z = j
  · subst hj
    have hin := hrs z
    rw [List.getD_eq_getElem?_getD, hrz] at hin
    rw [P.getD_set_eq _ _ _ _ (by exact om164 hrl hz), P.getD_set_eq _ _ _ _ (by exact om163 hz hdl), List.map_append]
    exact hin.snoc hv
  · rw [P.getD_set_ne _ _ _ hj, P.getD_set_ne _ _ _ hj]
    exact hrs j
set_option maxRecDepth 100000 in
set_option maxHeartbeats 4000000 in
theorem due_spec {prog : Program} {w : World} {A : Around} {E : Value → Shared → Prop} {s : Shared} {K : KP} {ks : List P.Kind} {k n : Nat} {vK : Value} {tn : Tok} {Q : Value → Shared → Prop}
    (hF : Fun K 323 dueFd) (hG : GB K gl bl) (hK : ∀ b o, K b o → s.heap.get? b = some o) (hA : AOk A (k + 1))
    (hV : Rd K vK (.list (ks.map dKind))) (hn : n ≤ 6) (hks : ∀ k ∈ ks, k.1 < 64 ∧ k.2.1 ≤ n) (hkl : ks.length ≤ 64)
    (h : ∀ v K' s', Ret K s [] s.gens K' s' → Rd K' v (dDue (dueL ks n)) → Q v s') :
    wpAny (model prog w) A (call (.ref 323) [vK, .int n tn]) Q E s := by
  refine call_fun (vals := [some vK, some (.int n tn), none, none, none, none, none]) hF hG hK hA due_scope (ps := ["kinds", "many"]) (ls := ["size", "due", "first", "great", "word"]) rfl rfl rfl (fun _ _ _ _ _ => rfl) fun L env s₁ A Nn hL hA he S hNn => ?_
  kspl_open gv
  kspl_open go
  refine x_comp (cl := []) (swaps_comp he (he.all _ (by decide)).1 rfl (by decide)) (closureFor_none (by decide)) rfl (by decide) ?_
  kspl_open go
  refine c_range S fun r s₁ K₁ hle₁ S hr => ?_
  refine it_range S hA.handled hr (by exact om115) (by exact om176 hn) (by exact om175) fun I s₁ S W => ?_
  have eN : ((n : Int) + 1 - 0).toNat = n + 1 := by exact om174
  rw [eN] at W
  kspl_open bk
  refine run_compU (cgn := []) (fun i g' K' ys rest => g' = s.gens ∧ ∃ as : List Addr, as.length = i ∧ ys = as.map Value.ref ∧ rest = inn as (List.replicate i [])) S he W (by decide) rfl (comp_env he rfl (by decide) (fun _ h => nomatch h)) (by show n + 1 ≤ 2 ^ 24; exact om173 hn) ⟨rfl, [], rfl, rfl, rfl⟩ ?_ ?_ ?_
  · rintro i g' K₂ ys rest s₁ v' PI C D E' Nn Nf hi hle₂ ⟨rfl, as, hal, rfl, rfl⟩ ⟨tv, rfl⟩ S hC he hNl hNf
    refine no_ifs ?_
    rw [if_pos rfl]
    kspl_open go
    refine nw_list S fun a s₁ S => ?_
    kspl_open go
    refine hNl _ _ _ (inn (as ++ [a]) (List.replicate (i + 1) [])) (some (.int (0 + (i : Int)) tv)) _ (Le.refl _) ⟨rfl, as ++ [a], by simp [hal], by simp, rfl⟩ (S.perm ?_)
    have e : inn (as ++ [a]) (List.replicate (i + 1) []) = inn as (List.replicate i []) ++ [(a, LpO [])] := by
      unfold inn
      rw [show List.replicate (i + 1) ([] : List Value) = List.replicate i [] ++ [[]] by rw [List.replicate_succ', ]]
      rw [List.zipWith_append (by simp [hal])]; rfl
    rw [e]
    refine List.Perm.cons _ ?_
    have : ∀ (x y z q : Addr × Pr) (l : Own), (x :: y :: z :: (l ++ [q])).Perm (q :: x :: y :: z :: l) := fun x y z q l => by
      have := List.perm_middle (a := q) (l₁ := x :: y :: z :: l) (l₂ := [])
      simpa using this
    exact this _ _ _ _ _
  · rintro i g' K₂ ys rest ⟨rfl, as, hal, rfl, rfl⟩
    simp [hal]
  · intro D
    refine ⟨[some vK, some (.int n tn), none, some (.ref D), none, none, none], by kspl_open up, ?_⟩
    rintro g' K₂ ys rest s₁ hle₂ ⟨rfl, as, hal, rfl, rfl⟩ S
    have hle := hle₁.trans hle₂
    kspl_open go
    refine it_rd S hA.handled (hV.mono hle) fun I s₁ S W => ?_
    kspl_open bk
    refine for_j (fun i => dJ vK n tn D as (dueL (ks.take i) n)) S hL W.kinds (fun _ kJ => kJ _ _ _ _ _ (List.length_replicate ..) fun j => ?_) ?_ ?_
    · have e1 : (List.replicate (n + 1) ([] : List Value)).getD j [] = [] := by simp [List.getD_eq_getElem?_getD, List.getElem?_replicate]; split <;> rfl
      have e2 : (dueL (ks.take 0) n).getD j [] = [] := by
        show (List.replicate (n + 1) ([] : List Str)).getD j [] = []
        simp [List.getD_eq_getElem?_getD, List.getElem?_replicate]; split <;> rfl
      rw [e1, e2]; exact .nil
    · intro i K₃ s₁ PI E' Nn hi hle₃
      have e1 := fun f z gg => @dueL_succ ks n i f z gg
      have hrow := fun z => @dueL_64 ks n i z hkl
      have hdl := dueL_len (ks.take i) n
      generalize dueL (ks.take i) n = rows at e1 hrow hdl ⊢
      generalize dueL (ks.take (i + 1)) n = rows' at e1 ⊢
      intro hNl hNx sz fi gr wo rs hrl hrs S f z gg d hki rd
      kspl_open gv
      have hf : f < 64 := (hks _ (List.mem_of_getElem? hki)).1
      have hz : z ≤ n := (hks _ (List.mem_of_getElem? hki)).2
      have hwd := wd_facts f hf
      refine as_kind S hL hA.handled (rd.mono hle₃) fun t1 t2 s₁ S => ?_
      kspl_open go
      have e3 : Int.fdiv (f : Int) 16 = ((f / 16 : Nat) : Int) := fdiv_nat f 16
      have e4 : Int.fmod (f : Int) 16 = ((f % 16 : Nat) : Int) := fmod_nat f 16
      refine b_div S (by decide) (PyProof.noPylong_small (by decide)) fun t s₁ S => ?_
      rw [e3]
      refine sub_str S (by exact om170) (by show _ < ((4 : Nat) : Int); exact om169 hf) (by exact om168 hf) fun t s₁ S => ?_
      kspl_open go
      refine b_mod S (by decide) fun t s₁ S => ?_
      rw [e4]
      refine sub_str S (by exact om167) (by show _ < ((16 : Nat) : Int); exact om166) (by exact om165) fun t s₁ S => ?_
      refine b_adds S (by show 1 + 1 ≤ 2 ^ 24; decide) fun t s₁ S => ?_
      rw [hwd.1]
      kspl_open go
      refine get_C (l := as) (i := z) (by exact om164 hal hz) fun az haz => ?_
      refine get_C (l := rs) (i := z) (by exact om164 hrl hz) fun rz hrz => ?_
      refine' sub_list (S.listAt ?zm) rfl (gm haz) (Nat.lt_of_le_of_lt (Nat.le_trans hz hn) (by decide)) ?_
      case zm => kspl_open me
      refine m_append S (.tail _ (.tail _ (.tail _ (inn_mem haz hrz)))) ?_
      kspl_open go
      have hrzl : rz.length ≤ 2 ^ 24 := by
        have := (hrs z).length
        rw [List.length_map, List.getD_eq_getElem?_getD, hrz] at this
        exact om162 (hrow z hz) this
      refine ite_b (fun hg => ?_) fun hg => ?_
      · kspl_open go
        refine c_append S (.there (.there (.there (inn_up haz hrz)))) (by exact hrzl) fun s₁ S => ?_
        kspl_open go
        kspl_open nx
        exact dJ_to (e1 _ _ _ (hg ▸ hki)) kJ _ _ _ _ _ (by rw [List.length_set]; exact hrl) fun j => due_step hrl hdl hz hrz hrs (.str _ _) j
      · kspl_open go
        refine GM.lower ?_
        kspl_open go
        refine c_lower S hwd.2.2 fun t s₁ S => ?_
        rw [hwd.2.1]
        kspl_open go
        refine c_append S (.there (.there (.there (inn_up haz hrz)))) (by exact hrzl) fun s₁ S => ?_
        kspl_open go
        kspl_open nx
        exact dJ_to (e1 _ _ _ (hg ▸ hki)) kJ _ _ _ _ _ (by rw [List.length_set]; exact hrl) fun j => due_step hrl hdl hz hrz hrs (.str _ _) j
    · intro K₃ s₁ hle₃ sz fi gr wo rs hrl hrs S
      kspl_open gv
      rw [List.take_of_length_le (Nat.le_refl _)] at hrs
      kspl_open go
      refine St.frzN (pre := [(L, _), (D, _)]) S rfl fun K₄ hle₄ S hfz => ?_
      refine St.frzL S List.not_mem_nil (due_all hal hrl (dueL_len _ _) hrs hle₄ hfz) fun K₅ hle₅ rc S => ?_
      exact h _ _ _ S.ret rc.rd
end

section
/-- what Whitespace.__init__ reckons -/
structure WS where
  count : List Nat
  b : Nat
  n : Nat
  nt : Nat
def wsCount (st : WS) : List Nat := if st.b ≥ st.count.length then st.count ++ List.replicate (st.b - st.count.length + 1) 0 else st.count
def wsStep (st : WS) (ch : Nat) : WS := if ch = 32 then { st with b := st.b + 1, n := st.n + 1 } else
  ⟨(wsCount st).set st.b ((wsCount st).getD st.b 0 + 1), 0, st.n + 1, st.nt + 1⟩
def wsFold (cs : List Nat) : WS := cs.foldl wsStep ⟨[], 0, 0, 0⟩
theorem wsCount_len (st : WS) : st.b < (wsCount st).length ∧ (wsCount st).length ≤ st.count.length + st.b + 1 := by
  unfold wsCount
  split
  · simp; exact om196
  · omega
theorem ws_bound (cs : List Nat) : ∀ (st : WS) (m : Nat), st.b ≤ m → st.count.length ≤ m → (cs.foldl wsStep st).b ≤ m + cs.length ∧ (cs.foldl wsStep st).count.length ≤ m + cs.length := by
  induction cs with
  | nil => exact fun st m h1 h2 => ⟨h1, h2⟩
  | cons ch cs ih =>
    intro st m h1 h2
    have hw := wsCount_len st
    have k : (wsStep st ch).b ≤ m + 1 ∧ (wsStep st ch).count.length ≤ m + 1 := by
      unfold wsStep
      split
      · exact ⟨Nat.succ_le_succ h1, Nat.le_succ_of_le h2⟩
      · refine ⟨Nat.zero_le _, ?_⟩
        show ((wsCount st).set _ _).length ≤ _
        rw [List.length_set]
        unfold wsCount
        split
        · rw [List.length_append, List.length_replicate]; omega
        · exact Nat.le_succ_of_le h2
    have := ih (wsStep st ch) (m + 1) k.1 k.2
    rw [List.foldl_cons, List.length_cons, ← Nat.succ_add_eq_add_succ]
    exact this

/-- v is a Whitespace of this -/
inductive WsO (K : KP) : Value → WS → Prop
  | mk {x dx : Addr} {o : Obj} {raw vN : Value} {tn tt : Tok} {st : WS} (hI : K x (instObj 100 dx)) (hD : K dx o)
    (hO : AtO [("raw", raw), ("n", .int (st.n : Nat) tn), ("nt", .int (st.nt : Nat) tt), ("norm", vN), ("is_simple", .bool (decide (st.count.length ≤ 1)))] o) (hN : Rd K vN (.tuple [.tuple (st.count.map dI), dI st.b])) : WsO K (.ref x) st
theorem WsO.mono {K K' : KP} {v : Value} {st : WS} (h : WsO K v st) (l : Le K K') : WsO K' v st := by
  cases h with | mk a b c d => exact .mk (l _ _ a) (l _ _ b) c (d.mono l)

abbrev winiFd : Fd := fdIn "Whitespace.__init__" (wsS 1)
abbrev winiN : List Str := ["self", "ws", "S", "T", "count", "b", "n", "nt", "ch"]
abbrev winiG : List Str := ["Whitespace", "len", "tuple"]
theorem wini_scope : ScopeOk winiFd.S winiN winiG := by
  refine ⟨by rfl, by decide, by decide +kernel, by decide +kernel, by decide +kernel, by exact ⟨rfl, rfl⟩⟩
section
set_option maxRecDepth 100000
end
theorem rdS {K : KP} {n : Nat} {t : Tok} : Rd K (.int ((n : Int) + 1) t) (dI (n + 1)) := by
  have e : dI (n + 1) = .int ((n : Int) + 1) := by show PyData.int ((n + 1 : Nat) : Int) = _; rw [Int.natCast_add]; rfl
  rw [e]; exact .int _ _
theorem sp_eq : (({ cps := #[32] } : Str) == Str.ofString " ") = true ∧ (({ cps := #[9] } : Str) == Str.ofString " ") = false ∧ (({ cps := #[9] } : Str) == Str.ofString "\t") = true := by decide

theorem cl_val {prog : Program} {w : World} {A : Around} {E : Value → Shared → Prop} {c : Cx} {g : Gs} {K : KP} {own : Own} {s : Shared} {KF : Frag} {mc : Value} {name : Str} {C : Addr} {v : Value} {expr : Bool} {Q : Value → Shared → Prop} (S : St c g K own s) (X : InK KF K)
    (hr : readsIn KF C mc = true) (e : findCls KF (.ref C) mc name = some (.val v)) (hh : handedIn v = true) (h : ∀ s', St c g K own s' → Q v s') : wpAny (model prog w) A (getAttr (.ref C) name expr) Q E s :=
  cls_value (X.in_ S) hr e hh (h _ (S.toks _))

def wnJ (x dx : Addr) (cs : List Nat) (tw : Tok) (st : WS) (K : KP) (C : JC) : Prop := ∀ aC vC tb tn tt ch, RdAll K vC (st.count.map dI) → C [some (.ref x), some (.str ⟨cs.toArray⟩ tw), some (.str " " 304), some (.str "\t" 305), some (.ref aC), some (.int st.b tb), some (.int st.n tn), some (.int st.nt tt), ch] [(aC, LpO vC), (dx, AtO [("raw", .str ⟨cs.toArray⟩ tw)])]
theorem wnJ_to {x dx : Addr} {cs : List Nat} {tw : Tok} {st st' : WS} {K : KP} {C : JC} (e : st = st') (h : wnJ x dx cs tw st K C) : wnJ x dx cs tw st' K C := e ▸ h
theorem wsFold_succ {cs : List Nat} {i ch : Nat} (h : cs[i]? = some ch) : wsFold (cs.take (i + 1)) = wsStep (wsFold (cs.take i)) ch := by
  unfold wsFold
  rw [List.take_add_one, h, List.foldl_append]; rfl
theorem wsFold_bd {cs : List Nat} (hlen : cs.length ≤ 200) : (wsFold cs).b ≤ 0 + 200 ∧ (wsFold cs).count.length ≤ 0 + 200 := by
  have h := ws_bound cs ⟨[], 0, 0, 0⟩ 0 (Nat.zero_le _) (Nat.zero_le _)
  exact ⟨Nat.le_trans h.1 (Nat.add_le_add_left hlen 0), Nat.le_trans h.2 (Nat.add_le_add_left hlen 0)⟩
theorem wsStep_tab (st : WS) : wsStep st 9 = ⟨(wsCount st).set st.b ((wsCount st).getD st.b 0 + 1), 0, st.n + 1, st.nt + 1⟩ := by unfold wsStep; rw [if_neg (by decide)]
def PChr (cs : List Nat) (i : Nat) (C : Value → Prop) : Prop := ∀ ch u, cs[i]? = some ch → C (.str ⟨#[ch]⟩ u)
theorem Iter.chr {prog : Program} {w : World} {A : Around} {c : Cx} {K : KP} {I : Addr} {cs : List Nat} {h : Heap} (W : Iter prog w A c K I (⟨cs.toArray⟩ : Str).cps.size (fun i v => ∃ cc u, (⟨cs.toArray⟩ : Str).cps[i]? = some cc ∧ v = .str ⟨#[cc]⟩ u) h) : Iter prog w A c K I cs.length (Chu (PChr cs)) h :=
  W.imp (by simp) fun i v _ ⟨cc, u, hcc, e⟩ C k => by
    rw [e]; exact k cc u (by simpa using hcc)
section
variable {prog : Program} {w : World} {A : Around} {E : Value → Shared → Prop} {c : Cx} {g : Gs} {K : KP} {rest : Own} {s : Shared} {L : Addr} {mv : Mm} {KF : Frag}
theorem at_setE {x C dx : Addr} {l : List (Str × Value)} (l' : List (Str × Value)) {name : Str} {v : Value} {rest' : Own} {Q : Unit → Shared → Prop} (S : St c g K ((L, NsO mv) :: rest) s) (hL : c.h0.objs.size ≤ L) (X : InK KF K) (hI : K x (instObj C dx))
    (hu : OwnUp rest dx (AtO l) (AtO l') rest') (hN : SetNm KF C name) (h : ∀ s', St c g K ((L, NsO mv) :: rest') s' → Q () s') (e : updL name v l = l' := by rfl) (hz : (updL name v l).length ≤ 100 := by exact (Nat.le_of_ble_eq_true rfl)) :
    wpAny (model prog w) A (setAttr (.ref x) name v) Q E s := at_set S hL X hI (e ▸ hu) hN hz h
end
set_option maxRecDepth 100000 in
set_option maxHeartbeats 4000000 in
theorem wini_code {prog : Program} {w : World} {A : Around} {c : Cx} {g : Gs} {K : KP} {s : Shared} {k : Nat} {x dx : Addr} {cs : List Nat} {tw : Tok} {P : Params} {R : Result → Shared → Prop}
    (S : St c g K [(dx, AtO [])] s) (hm : c.mu = []) (hX : InK (KFh P) K) (hG : GB K gl bl) (hA : AOk A (k + 1)) (hI : K x (instObj 100 dx)) (hcs : ∀ ch ∈ cs, ch = 32 ∨ ch = 9) (hlen : cs.length ≤ 200)
    (h : ∀ K' own s', Le K K' → St c g K' own s' → WsO K' (.ref x) (wsFold cs) → R (.ok (.ret .none)) s') :
    codeAny (model prog w) A (.call (.ref 55) ⟨[.ref x, .str ⟨cs.toArray⟩ tw], []⟩) R s := by
  refine code_funL (vals := [some (.ref x), some (.str ⟨cs.toArray⟩ tw), none, none, none, none, none, none, none]) S (f_wini hX) hG hA wini_scope (ps := ["self", "ws"]) (ls := ["S", "T", "count", "b", "n", "nt", "ch"]) rfl rfl rfl (fun _ _ _ _ _ => rfl) fun L env s₁ A Nn hL hA he S hNn => ?_
  kspl_open gv
  kspl_open go
  refine' at_setE [("raw", .str ⟨cs.toArray⟩ tw)] (l := []) (name := "raw") S hL hX hI ?zu (s_raw P) ?_
  case zu => kspl_open ou
  intro s₁ S
  kspl_open go
  refine x_swap2 (swapped2 he (he.all _ (by decide)).1 (he.all _ (by decide)).1 (by decide) (by decide) (by rfl) (by decide +kernel) (by decide +kernel)) ?_
  kspl_open go
  refine cl_val S hX (w_rd P) (w_S P) rfl fun s₁ S => ?_
  kspl_open go
  refine cl_val S hX (w_rd P) (w_T P) rfl fun s₁ S => ?_
  kspl_open go
  refine nw_tupV S fun aT s₁ K₁ hle₁ S hT => ?_
  refine un_tup2 S hL hA.handled hT rfl fun s₁ S => ?_
  have hX := hX.mono hle₁
  have hG := hG.mono hle₁
  have hI := hle₁ _ _ hI
  kspl_open go
  refine nw_list S fun aC s₁ S => ?_
  kspl_open go
  refine wpAny_Assign_three ?_ (by with_unfolding_all rfl)
  kspl_open go
  refine wpAny_assign_Name ?_
  kspl_open go
  refine wpAny_assign_Name ?_
  kspl_open go
  refine wpAny_assign_Name ?_
  kspl_open go
  refine' at_get S hX hI (S.owned (dx, AtO [("raw", Value.str ⟨cs.toArray⟩ tw)]) ?zm) (o_raw P) rfl rfl fun s₁ S => ?_
  case zm => kspl_open me
  refine it_str S hA.handled ?_ fun I s₁ S W => ?_
  · simp only [Array.all_eq_true_iff_forall_mem, List.mem_toArray]
    intro ch hch
    rcases hcs ch hch with rfl | rfl <;> decide
  kspl_open bk
  refine for_j (fun i => wnJ x dx cs tw (wsFold (cs.take i))) S hL W.chr (fun _ kJ => kJ aC [] _ _ _ _ .nil) ?_ ?_
  · intro i K₂ s₁ PI E' Nn hi hle₂
    have es := fun ch => @wsFold_succ cs i ch
    have hti := Nat.le_refl 200
    have hbd := wsFold_bd (cs := cs.take i) (by rw [List.length_take]; exact om194 hlen)
    generalize wsFold (cs.take i) = st at es hbd ⊢
    generalize wsFold (cs.take (i + 1)) = st' at es ⊢
    intro hNl hNx aC vC tb tn tt ch hvC S cc u hcc'
    kspl_open gv
    have b1 := hbd.1
    have b2 := hbd.2
    have hG := hG.mono hle₂
    have hvl : vC.length = st.count.length := by rw [hvC.length, List.length_map]
    refine wpAny_assign_Name ?_
    kspl_open go
    refine PyProof.Rows.eq_str ?_
    rcases hcs cc (List.mem_of_getElem? hcc') with hc | hc
    · rw [hc] at hcc' ⊢
      rw [sp_eq.1]
      kspl_open go
      refine ite_b (fun _ => ?_) fun h => nomatch h
      kspl_open go
      kspl_open nx
      exact wnJ_to (es _ hcc') kJ aC vC _ _ _ _ hvC
    · rw [hc] at hcc' ⊢
      rw [sp_eq.2.1]
      kspl_open go
      refine ite_b (fun h => nomatch h) fun _ => ?_
      kspl_open go
      refine PyProof.Rows.eq_str ?_
      rw [hc, sp_eq.2.2]
      kspl_open go
      refine ite_b (fun _ => ?_) fun h => nomatch h
      kspl_open go
      kspl_open ln
      kspl_open go
      rw [hvl]
      have hw := wsCount_len st
      refine ite_d (fun hge => ?_) fun hlt => ?_
      · kspl_open go
        revert t
        intro t0
        refine nw_list S fun a0 s₁ S => ?_
        kspl_open go
        kspl_open ln
        kspl_open go
        rw [hvl]
        have e1 : ((st.b : Int) - (st.count.length : Int) + 1) = ((st.b - st.count.length + 1 : Nat) : Int) := by exact om193 hge
        rw [e1]
        refine' b_rep S hL ?zm (Int.natCast_nonneg _) (by exact om192 hti b1) ?_
        case zm => kspl_open me
        intro d s₁ S
        refine' b_cat S (S.owned (aC, LpO vC) ?zm) (S.owned (d, LpO _) ?zn) ?_ fun d2 s₁ S => ?_
        case zm => kspl_open me
        case zn => kspl_open me
        · rw [List.length_replicate, Int.toNat_natCast]; show _ ≤ 2 ^ 24; exact om191 hti b1 hvl e1
        have S := S.drop2.drop2.swap1.drop3
        kspl_open go
        have hvD : RdAll K₂ (vC ++ List.replicate (((st.b - st.count.length + 1 : Nat) : Int)).toNat (.int 0 t0)) ((wsCount st).map dI) := by
          unfold wsCount
          rw [if_pos (by exact om190 e1), List.map_append, List.map_replicate, Int.toNat_natCast]
          exact hvC.append (rd_rep (.int _ _) _)
        generalize vC ++ List.replicate (((st.b - st.count.length + 1 : Nat) : Int)).toNat (.int 0 t0) = vD at hvD S hLv
        have hvDl : vD.length = (wsCount st).length := by rw [hvD.length, List.length_map]
        refine' sub_nat (S.listAt ?zm) hvD hw.1 (by exact om189 hti b1) fun tq => ?_
        case zm => kspl_open me
        kspl_open go
        kspl_open sl
        kspl_open go
        kspl_open nx
        refine wnJ_to ((es _ hcc').trans (wsStep_tab st)) kJ d2 _ _ _ _ _ ?_
        rw [List.map_set]
        exact hvD.set _ rdS
      · kspl_open go
        have hvD : RdAll K₂ vC ((wsCount st).map dI) := by
          unfold wsCount
          rw [if_neg (by exact om188 hlt)]
          exact hvC
        generalize vC = vD at hvD S hLv
        have hvDl : vD.length = (wsCount st).length := by rw [hvD.length, List.length_map]
        refine' sub_nat (S.listAt ?zm) hvD hw.1 (by exact om187 hti b2 hlt) fun tq => ?_
        case zm => kspl_open me
        kspl_open go
        kspl_open sl
        kspl_open go
        kspl_open nx
        refine wnJ_to ((es _ hcc').trans (wsStep_tab st)) kJ aC _ _ _ _ _ ?_
        rw [List.map_set]
        exact hvD.set _ rdS
  · intro K₂ s₁ hle₂
    rw [List.take_of_length_le (Nat.le_refl _)]
    intro aC vC tb tn tt ch hvC S
    kspl_open gv
    have hX := hX.mono hle₂
    have hG := hG.mono hle₂
    have hI := hle₂ _ _ hI
    have b2 := (wsFold_bd hlen).2
    have hlen := Nat.le_refl 200
    have hvl : vC.length = (wsFold cs).count.length := by rw [hvC.length, List.length_map]
    kspl_open go
    refine' at_setE [("raw", Value.str ⟨cs.toArray⟩ tw), ("n", .int ((wsFold cs).n : Nat) tn)] (l := [("raw", .str ⟨cs.toArray⟩ tw)]) (name := "n") S hL hX hI ?zu (s_n P) ?_
    case zu => kspl_open ou
    intro s₁ S
    kspl_open go
    refine' at_setE [("raw", Value.str ⟨cs.toArray⟩ tw), ("n", .int ((wsFold cs).n : Nat) tn), ("nt", .int ((wsFold cs).nt : Nat) tt)] (l := [("raw", .str ⟨cs.toArray⟩ tw), ("n", .int ((wsFold cs).n : Nat) tn)]) (name := "nt") S hL hX hI ?zu (s_nt P) ?_
    case zu => kspl_open ou
    intro s₁ S
    kspl_open go
    refine' c_tuple S hL (S.listAt ?zm) hvC (by exact om186 hlen b2 hvl) ?_
    case zm => kspl_open me
    intro D s₁ K₃ hle₃ S hD
    kspl_open go
    refine nw_tuple S (.cons hD (.cons (.int _ _) .nil)) fun aN s₁ K₄ hle₄ S hN => ?_
    have hX := hX.mono (hle₃.trans hle₄)
    have hG := hG.mono (hle₃.trans hle₄)
    have hI := (hle₃.trans hle₄) _ _ hI
    kspl_open go
    refine' at_setE [("raw", Value.str ⟨cs.toArray⟩ tw), ("n", .int ((wsFold cs).n : Nat) tn), ("nt", .int ((wsFold cs).nt : Nat) tt), ("norm", .ref aN)] (l := [("raw", .str ⟨cs.toArray⟩ tw), ("n", .int ((wsFold cs).n : Nat) tn), ("nt", .int ((wsFold cs).nt : Nat) tt)]) (name := "norm") S hL hX hI ?zu (s_norm P) ?_
    case zu => kspl_open ou
    intro s₁ S
    kspl_open go
    kspl_open ln
    kspl_open go
    rw [hvl]
    refine' at_setE [("raw", Value.str ⟨cs.toArray⟩ tw), ("n", .int ((wsFold cs).n : Nat) tn), ("nt", .int ((wsFold cs).nt : Nat) tt), ("norm", .ref aN), ("is_simple", .bool (decide ((((wsFold cs).count.length : Nat) : Int) ≤ 1)))] (l := [("raw", .str ⟨cs.toArray⟩ tw), ("n", .int ((wsFold cs).n : Nat) tn), ("nt", .int ((wsFold cs).nt : Nat) tt), ("norm", .ref aN)]) (name := "is_simple") S hL hX hI ?zu (s_simple P) ?_
    case zu => kspl_open ou
    intro s₁ S
    kspl_open go
    have S := S.drop1
    refine St.frz S (by rw [hm]; exact List.not_mem_nil) fun o ho S => ?_
    have hsm : decide ((((wsFold cs).count.length : Nat) : Int) ≤ 1) = decide ((wsFold cs).count.length ≤ 1) := by
      by_cases hq : (wsFold cs).count.length ≤ 1
      · rw [decide_eq_true hq, decide_eq_true (by exact om185 hq)]
      · rw [decide_eq_false hq, decide_eq_false (by exact om184 hq)]
    rw [hsm] at ho
    exact h _ _ _ (((hle₁.trans hle₂).trans (hle₃.trans hle₄)).trans (le_add _ _ _)) S (.mk (.inl hI) (.inr ⟨rfl, rfl⟩) ho (hN.mono (le_add _ _ _)))
end

section
abbrev dI' (x : Nat) : PyData := .int (x : Int)
set_option maxRecDepth 100000 in
theorem ws_spec {prog : Program} {w : World} {A : Around} {E : Value → Shared → Prop} {s : Shared} {K : KP} {k : Nat} {cs : List Nat} {tw : Tok} {P : Params} {Q : Value → Shared → Prop}
    (hX : InK (KFh P) K) (hG : GB K gl bl) (hK : ∀ b o, K b o → s.heap.get? b = some o) (hA : AOk A (k + 2)) (hcs : ∀ ch ∈ cs, ch = 32 ∨ ch = 9) (hlen : cs.length ≤ 200)
    (h : ∀ v K' s', Ret K s [] s.gens K' s' → WsO K' v (wsFold cs) → Q v s') :
    wpAny (model prog w) A (call (.ref 100) [.str ⟨cs.toArray⟩ tw]) Q E s := by
  have S0 := St.start s K [] hK
  have X := hX.in_ S0
  have S1 := (S0.grow (h' := s.heap.push emptyDict) s.toks (fun b o e => Heap.get?_push_of_some _ e) (by rw [Heap.size_push]; exact Nat.le_succ _)).addOwn (a := s.heap.objs.size) (P := AtO []) ⟨emptyDict, Heap.get?_push_size _ rfl, [], 0, rfl, .nil⟩ (Nat.le_refl _) (fun _ hp => nomatch hp) (fun b o hb => Nat.ne_of_lt (Heap.lt_size (hK b o hb)))
  have S2 := S1.allocK (instObj 100 s.heap.objs.size) rfl s.toks
  have hle := le_add K (s.heap.push emptyDict).objs.size (instObj 100 s.heap.objs.size)
  have hI : (K.add (s.heap.push emptyDict).objs.size (instObj 100 s.heap.objs.size)) (s.heap.objs.size + 1) (instObj 100 s.heap.objs.size) := .inr ⟨by rw [Heap.size_push], rfl⟩
  refine wpAny_call (make_core (makes_of X (w_make P)) (looks_findIn X (w_init P)) (fun self => bind_fn X self (w_fn P)) (.inl rfl) ?_)
  refine wini_code (k := k) S2 rfl (hX.mono hle) (hG.mono hle) hA.makes hI hcs hlen fun K' own s' hle' S hW => ⟨rfl, ?_⟩
  exact h _ _ _ ⟨fun b o hb => hle' _ _ (hle _ _ hb), S.new, S.kept, fun b o hb hn => S.base b o hb hn, S.size, S.gens, S.os⟩ hW

abbrev wlrFd : Fd := fdIn "Whitespace.longest_run_of_spaces" (wsS 2)
abbrev wlrN : List Str := ["self", "count", "trailing"]
theorem wlr_scope : ScopeOk wlrFd.S wlrN ["max", "len"] := by
  refine ⟨by rfl, by decide, by decide +kernel, by decide +kernel, by decide +kernel, by exact ⟨rfl, rfl⟩⟩
def lrun (st : WS) : Nat := max (st.count.length - 1) st.b
set_option maxRecDepth 100000 in
set_option maxHeartbeats 4000000 in
theorem wlr_spec {prog : Program} {w : World} {A : Around} {E : Value → Shared → Prop} {s : Shared} {K : KP} {k : Nat} {v : Value} {st : WS} {P : Params} {Q : Value → Shared → Prop}
    (hX : InK (KFh P) K) (hG : GB K gl bl) (hK : ∀ b o, K b o → s.heap.get? b = some o) (hA : AOk A (k + 1)) (hW : WsO K v st) (hcl : st.count.length < 2 ^ 20)
    (h : ∀ t K' s', Ret K s [] s.gens K' s' → Q (.int (lrun st : Nat) t) s') :
    wpAny (model prog w) A (call (.ref 62) [v]) Q E s := by
  cases hW with | @mk x dx o raw vN tn tt _ hI hD hO hN
  refine call_fun (vals := [some (.ref x), none, none]) (f_wlr hX) hG hK hA wlr_scope (ps := ["self"]) (ls := ["count", "trailing"]) rfl rfl rfl (fun _ _ _ _ _ => rfl) fun L env s₁ A Nn hL hA he S hNn => ?_
  kspl_open gv
  kspl_open go
  refine at_get S hX hI ⟨o, S.kept _ _ hD, hO⟩ (o_norm P) rfl (by cases hN; rfl) fun s₁ S => ?_
  refine as_tup2 S hL hA.handled hN fun vC vB s₁ S rC rB => ?_
  obtain ⟨tb, rfl⟩ := rB.intE
  kspl_open go
  refine c_len_tup S rC (by rw [List.length_map]; exact om202 hcl) fun t s₁ S => ?_
  rw [List.length_map]
  kspl_open go
  refine c_max S hL hA.handled fun t s₁ S => ?_
  kspl_open go
  have e : max ((st.count.length : Int) - 1) (st.b : Int) = ((lrun st : Nat) : Int) := by unfold lrun; exact om205
  rw [e]
  exact h _ _ _ S.ret

abbrev wilFd : Fd := fdIn "Whitespace.indent_level" (wsS 3)
abbrev wilN : List Str := ["self", "tabsize", "count", "trailing", "il", "i"]
theorem wil_scope : ScopeOk wilFd.S wilN ["range", "len"] := by
  refine ⟨by rfl, by decide, by decide +kernel, by decide +kernel, by decide +kernel, by exact ⟨rfl, rfl⟩⟩
def ilSum (st : WS) (ts : Nat) : Nat → Nat
  | 0 => 0
  | j + 1 => ilSum st ts j + (ts + j) / ts * st.count.getD (ts + j) 0
def ilv (st : WS) (ts : Nat) : Nat := st.b + ts * (ilSum st ts (st.count.length - ts) + st.nt)
def ilJ (x : Addr) (ts : Nat) (t0 tb : Tok) (vC : Value) (st : WS) (j : Nat) (_ : KP) (C : JC) : Prop := ∀ ti ii, C [some (.ref x), some (.int ts t0), some vC, some (.int st.b tb), some (.int (ilSum st ts j : Nat) ti), ii] []
set_option maxRecDepth 100000 in
set_option maxHeartbeats 4000000 in
theorem wil_spec {prog : Program} {w : World} {A : Around} {E : Value → Shared → Prop} {s : Shared} {K : KP} {k ts : Nat} {v : Value} {t0 : Tok} {st : WS} {P : Params} {Q : Value → Shared → Prop}
    (hX : InK (KFh P) K) (hG : GB K gl bl) (hK : ∀ b o, K b o → s.heap.get? b = some o) (hA : AOk A (k + 1)) (hW : WsO K v st) (hcl : st.count.length < 2 ^ 20) (h1 : ts ≠ 0) (h2 : ts < 2 ^ 20)
    (h : ∀ t K' s', Ret K s [] s.gens K' s' → Q (.int (ilv st ts : Nat) t) s') :
    wpAny (model prog w) A (call (.ref 69) [v, .int ts t0]) Q E s := by
  cases hW with | @mk x dx o raw vN tn tt _ hI hD hO hN
  refine call_fun (vals := [some (.ref x), some (.int ts t0), none, none, none, none]) (f_wil hX) hG hK hA wil_scope (ps := ["self", "tabsize"]) (ls := ["count", "trailing", "il", "i"]) rfl rfl rfl (fun _ _ _ _ _ => rfl) fun L env s₁ A Nn hL hA he S hNn => ?_
  kspl_open gv
  have hti : Builtin.Int.intBits (ts : Int) ≤ 64 := intBits_le_64 (by exact om204) (by exact om203 h2)
  kspl_open go
  refine at_get S hX hI ⟨o, S.kept _ _ hD, hO⟩ (o_norm P) rfl (by cases hN; rfl) fun s₁ S => ?_
  refine as_tup2 S hL hA.handled hN fun vC vB s₁ S rC rB => ?_
  obtain ⟨tb, rfl⟩ := rB.intE
  kspl_open go
  refine c_len_tup S rC (by rw [List.length_map]; exact om202 hcl) fun t s₁ S => ?_
  rw [List.length_map]
  kspl_open go
  refine c_range2 S fun r s₁ K₁ hle₁ S hr => ?_
  refine it_rngA S hA.handled hr rfl rfl (Nat.lt_trans h2 (by decide)) (Nat.lt_trans hcl (by decide)) fun I s₁ S W => ?_
  kspl_open bk
  refine for_j (ilJ x ts t0 tb vC st) S hL W (fun _ kJ => kJ _ _) ?_ ?_
  · intro j K₂ s₁ PI E' Nn hj hle₂ hNl hNx ti ii S tj
    kspl_open gv
    have rC := rC.mono (hle₁.trans hle₂)
    refine wpAny_assign_Name ?_
    kspl_open go
    refine b_div S (by exact om181 h1) (PyProof.noPylong_small (by omega)) fun t s₁ S => ?_
    rw [fdiv_nat]
    kspl_open go
    have hget : (st.count.map dI)[ts + j]? = some (dI (st.count.getD (ts + j) 0)) := by
      have : ts + j < st.count.length := by exact om199 hj
      simp [List.getD_eq_getElem?_getD, this]
    refine sub_tup S rC rfl hget (by exact om198 hcl hj) fun vq rq => ?_
    refine Rd.intC (C := fun v => wpAny _ _ (binaryOp _ _ v) _ _ _) rq fun tq => ?_
    have hdv : (ts + j) / ts ≤ ts + j := Nat.div_le_self _ _
    refine b_mul S (IntMulOk.of_left (intBits_le_64 (Int.lt_of_lt_of_le (by decide) (Int.natCast_nonneg _)) (Int.lt_of_le_of_lt (Int.ofNat_le.mpr hdv) (by exact om197 hcl hj)))) fun t s₁ S => ?_
    kspl_open go
    have e1 : (ilSum st ts j : Int) + (((ts + j) / ts : Nat) : Int) * (st.count.getD (ts + j) 0 : Nat) = (ilSum st ts (j + 1) : Nat) := by
      rw [ilSum, Int.natCast_add, Int.natCast_mul]
    rw [e1] at hLv
    kspl_open nx
    exact kJ _ _
  · intro K₂ s₁ hle₂ ti ii S
    kspl_open gv
    kspl_open go
    refine at_get S (hX.mono (hle₁.trans hle₂)) ((hle₁.trans hle₂) _ _ hI) ⟨o, S.kept _ _ ((hle₁.trans hle₂) _ _ hD), hO⟩ (o_nt P) rfl rfl fun s₁ S => ?_
    kspl_open go
    refine b_mul S (IntMulOk.of_left hti) fun t s₁ S => ?_
    kspl_open go
    have e1 : (st.b : Int) + (ts : Int) * ((ilSum st ts (st.count.length - ts) : Nat) + (st.nt : Nat)) = (ilv st ts : Nat) := by
      unfold ilv; rw [Int.natCast_add, Int.natCast_mul, Int.natCast_add]
    rw [e1]
    exact h _ _ _ S.ret

theorem St.call {c : Cx} {g : Gs} {K K' : KP} {own : Own} {s s' : Shared} (S : St c g K own s) (r : Ret K s [] s.gens K' s') : St c g K' own s' := by
  have r2 := r
  rw [S.gens] at r2
  exact S.back r2
section
set_option maxRecDepth 100000
end
section
variable {prog : Program} {w : World} {A : Around} {E : Value → Shared → Prop} {c : Cx} {g : Gs} {K : KP} {own : Own} {s : Shared} {P : Params} {v : Value} {st : WS}
theorem ws_meth {f : Addr} {name : Str} {pl : Sem Bool} {Q : Value × List Value → Shared → Prop} (S : St c g K own s) (X : InK (KFh P) K) (hW : WsO K v st)
    (hf : plainGet (KFh P) 100 name = true ∧ findIn (KFh P) (.ref 100) name = some (some (.ref f)) ∧ isFn (KFh P) (.ref f) = true) (hn : name ∉ (["raw", "n", "nt", "norm", "is_simple"] : List Str)) (h : Q (.ref f, [v]) s) :
    wpAny (model prog w) A (getMethod v name pl) Q E s := by
  cases hW with | @mk x dx o raw vN tn tt _ hI hD hO hN
  refine at_meth S X hI ⟨o, S.kept _ _ hD, hO⟩ hf.1 hf.2.1 hf.2.2 ?_ h
  simp only [List.mem_cons, List.not_mem_nil, or_false, not_or] at hn
  obtain ⟨a1, a2, a3, a4, a5⟩ := hn
  simp [List.lookup_cons, beq_eq_false_iff_ne.mpr a1, beq_eq_false_iff_ne.mpr a2, beq_eq_false_iff_ne.mpr a3, beq_eq_false_iff_ne.mpr a4, beq_eq_false_iff_ne.mpr a5]
theorem ws_n {expr : Bool} {Q : Value → Shared → Prop} (S : St c g K own s) (X : InK (KFh P) K) (hW : WsO K v st) (h : ∀ t s', St c g K own s' → Q (.int (st.n : Nat) t) s') : wpAny (model prog w) A (getAttr v "n" expr) Q E s := by
  cases hW with | @mk x dx o raw vN tn tt _ hI hD hO hN
  exact at_get S X hI ⟨o, S.kept _ _ hD, hO⟩ (o_n P) rfl rfl fun s' S' => h _ _ S'
theorem ws_nt {expr : Bool} {Q : Value → Shared → Prop} (S : St c g K own s) (X : InK (KFh P) K) (hW : WsO K v st) (h : ∀ t s', St c g K own s' → Q (.int (st.nt : Nat) t) s') : wpAny (model prog w) A (getAttr v "nt" expr) Q E s := by
  cases hW with | @mk x dx o raw vN tn tt _ hI hD hO hN
  exact at_get S X hI ⟨o, S.kept _ _ hD, hO⟩ (o_nt P) rfl rfl fun s' S' => h _ _ S'
theorem ws_norm {expr : Bool} {Q : Value → Shared → Prop} (S : St c g K own s) (X : InK (KFh P) K) (hW : WsO K v st) (h : ∀ u s', St c g K own s' → Rd K u (.tuple [.tuple (st.count.map dI), dI st.b]) → Q u s') : wpAny (model prog w) A (getAttr v "norm" expr) Q E s := by
  cases hW with | @mk x dx o raw vN tn tt _ hI hD hO hN
  exact at_get S X hI ⟨o, S.kept _ _ hD, hO⟩ (o_norm P) rfl (by cases hN; rfl) fun s' S' => h _ _ S' hN
theorem ws_simple {expr : Bool} {Q : Value → Shared → Prop} (S : St c g K own s) (X : InK (KFh P) K) (hW : WsO K v st) (h : ∀ s', St c g K own s' → Q (.bool (decide (st.count.length ≤ 1))) s') : wpAny (model prog w) A (getAttr v "is_simple" expr) Q E s := by
  cases hW with | @mk x dx o raw vN tn tt _ hI hD hO hN
  exact at_get S X hI ⟨o, S.kept _ _ hD, hO⟩ (o_simple P) rfl rfl fun s' S' => h _ S'
end
end

section
theorem St.call0 {c : Cx} {g : Gs} {K K' : KP} {own : Own} {s s' : Shared} (S : St c g K own s) (r : Ret K s [] s.gens K' s') : St c g K own s' := by
  have S' := S.call r
  exact ⟨S.le, S.new, fun b o h => S'.kept b o (r.le b o h), S'.base, S'.size, S'.owned, S'.ownNew, fun b o h => S'.sep b o (r.le b o h), S'.nd, S'.gens, S'.os⟩
section
set_option maxRecDepth 100000
end
abbrev wnlFd : Fd := fdIn "Whitespace.not_less_witness" (wsS 7)
abbrev wnlN : List Str := ["self", "other", "n", "a", "ts"]
theorem wnl_scope : ScopeOk wnlFd.S wnlN ["max", "range"] := by
  refine ⟨by rfl, by decide, by decide +kernel, by decide +kernel, by decide +kernel, by exact ⟨rfl, rfl⟩⟩
abbrev Row3 := Nat × Nat × Nat
abbrev dRow (r : Row3) : PyData := .tuple [.int (r.1 : Nat), .int (r.2.1 : Nat), .int (r.2.2 : Nat)]
def rowsTo (x y : WS) : Nat → List Row3
  | 0 => []
  | j + 1 => if ilv x (j + 1) ≥ ilv y (j + 1) then rowsTo x y j ++ [(j + 1, ilv x (j + 1), ilv y (j + 1))] else rowsTo x y j
theorem rowsTo_yes {x y : WS} {j : Nat} (h : ilv x (j + 1) ≥ ilv y (j + 1)) : rowsTo x y (j + 1) = rowsTo x y j ++ [(j + 1, ilv x (j + 1), ilv y (j + 1))] := by rw [rowsTo, if_pos h]
theorem rowsTo_no {x y : WS} {j : Nat} (h : ¬ ilv x (j + 1) ≥ ilv y (j + 1)) : rowsTo x y (j + 1) = rowsTo x y j := by rw [rowsTo, if_neg h]
def nlJ (v u : Value) (n : Nat) (tn : Tok) (a : Addr) (rows : List Row3) (K : KP) (C : JC) : Prop := ∀ tt la, RdAll K la (rows.map dRow) → C [some v, some u, some (.int n tn), some (.ref a), tt] [(a, LpO la)]
theorem nlJ_to {v u : Value} {n : Nat} {tn : Tok} {a : Addr} {r r' : List Row3} {K : KP} {C : JC} (e : r = r') (h : nlJ v u n tn a r K C) : nlJ v u n tn a r' K C := e ▸ h
def lsJ (v u : Value) (n : Nat) (tn : Tok) (x y : WS) (j : Nat) (_ : KP) (C : JC) : Prop := ∀ tt, (∀ i, i < j → ilv x (i + 2) < ilv y (i + 2)) → C [some v, some u, some (.int n tn), tt] []
theorem rowsTo_len (x y : WS) : ∀ j, (rowsTo x y j).length ≤ j
  | 0 => Nat.le_refl _
  | j + 1 => by
    have := rowsTo_len x y j
    rw [rowsTo]; split
    · rw [List.length_append, List.length_singleton]; exact om177 this
    · exact om72 this
def many2 (x y : WS) : Nat := max (lrun x) (lrun y) + 1
structure Small (x : WS) : Prop where
  b : x.b < 2 ^ 19
  c : x.count.length < 2 ^ 19

set_option maxRecDepth 100000 in
set_option maxHeartbeats 4000000 in
theorem wnl_spec {prog : Program} {w : World} {A : Around} {E : Value → Shared → Prop} {s : Shared} {K : KP} {k : Nat} {v u : Value} {x y : WS} {P : Params} {Q : Value → Shared → Prop}
    (hX : InK (KFh P) K) (hG : GB K gl bl) (hK : ∀ b o, K b o → s.heap.get? b = some o) (hA : AOk A (k + 2)) (hV : WsO K v x) (hU : WsO K u y) (hx : Small x) (hy : Small y)
    (h : ∀ r K' s', Ret K s [] s.gens K' s' → Rd K' r (.list ((rowsTo x y (many2 x y)).map dRow)) → Q r s') :
    wpAny (model prog w) A (call (.ref 97) [v, u]) Q E s := by
  have xb := hx.b
  have xc := hx.c
  have yb := hy.b
  have yc := hy.c
  refine call_fun (vals := [some v, some u, none, none, none]) (f_wnl hX) hG hK hA wnl_scope (ps := ["self", "other"]) (ls := ["n", "a", "ts"]) rfl rfl rfl (fun _ _ _ _ _ => rfl) fun L env s₁ A Nn hL hA he S hNn => ?_
  kspl_open gv
  kspl_open go
  refine ws_meth S hX hV (p_lr P) (by decide) ?_
  kspl_open go
  refine callWith_K0 (hX.in_ S) (k_lr P) ?_
  refine wlr_spec hX hG S.kept hA hV (by exact om212 xc) fun t K' s₁ r => ?_
  have S := S.call0 r
  clear r
  kspl_open go
  refine ws_meth S hX hU (p_lr P) (by decide) ?_
  kspl_open go
  refine callWith_K0 (hX.in_ S) (k_lr P) ?_
  refine wlr_spec hX hG S.kept hA hU (by exact om212 yc) fun t K' s₁ r => ?_
  have S := S.call0 r
  clear r
  kspl_open go
  refine c_max S hL hA.handled fun t s₁ S => ?_
  kspl_open go
  have e0 : max (lrun x : Int) (lrun y : Int) + 1 = (many2 x y : Nat) := by unfold many2; exact om220
  have hm : many2 x y < 2 ^ 20 := by unfold many2 lrun; exact om219 xb xc yb yc
  rw [e0] at hLv
  generalize many2 x y = n at *
  refine nw_list S fun a s₁ S => ?_
  kspl_open go
  refine c_range2 S fun r s₁ K₁ hle₁ S hr => ?_
  refine it_rngA (a' := 1) (n' := n + 1) S hA.handled hr rfl rfl (by decide) (Nat.lt_of_le_of_lt hm (by decide)) fun I s₁ S W => ?_
  kspl_open bk
  refine for_j (fun j => nlJ v u n _ a (rowsTo x y j)) S hL W.rngB (fun _ kJ => kJ _ _ .nil) ?_ ?_
  · intro j K₂ s₁ PI E' Nn hj hle₂ hNl hNx tt la hla S tj
    kspl_open gv
    have hX := hX.mono (hle₁.trans hle₂)
    have hG := hG.mono (hle₁.trans hle₂)
    have hV := hV.mono (hle₁.trans hle₂)
    have hU := hU.mono (hle₁.trans hle₂)
    refine wpAny_assign_Name ?_
    kspl_open go
    refine ws_meth S hX hV (p_il P) (by decide) ?_
    kspl_open go
    refine callWith_K (hX.in_ S) (k_il P) ?_
    kspl_open go
    refine ⟨hX.in_ S, wil_spec hX hG S.kept hA hV (by exact om212 xc) (by exact om224) (by exact om223 hm hj) fun t K' s₁ r => ?_⟩
    have S := S.call0 r
    clear r
    kspl_open go
    refine ws_meth S hX hU (p_il P) (by decide) ?_
    kspl_open go
    refine callWith_K (hX.in_ S) (k_il P) ?_
    kspl_open go
    refine ⟨hX.in_ S, wil_spec hX hG S.kept hA hU (by exact om212 yc) (by exact om224) (by exact om223 hm hj) fun t K' s₁ r => ?_⟩
    have S := S.call0 r
    clear r
    kspl_open go
    refine ite_d (fun hge => ?_) fun hlt => ?_
    · kspl_open go
      kspl_open ma
      kspl_open go
      refine ws_meth S hX hV (p_il P) (by decide) ?_
      kspl_open go
      refine callWith_K (hX.in_ S) (k_il P) ?_
      kspl_open go
      refine ⟨hX.in_ S, wil_spec hX hG S.kept hA hV (by exact om212 xc) (by exact om224) (by exact om223 hm hj) fun t K' s₁ r => ?_⟩
      have S := S.call0 r
      clear r
      kspl_open go
      refine ws_meth S hX hU (p_il P) (by decide) ?_
      kspl_open go
      refine callWith_K (hX.in_ S) (k_il P) ?_
      kspl_open go
      refine ⟨hX.in_ S, wil_spec hX hG S.kept hA hU (by exact om212 yc) (by exact om224) (by exact om223 hm hj) fun t K' s₁ r => ?_⟩
      have S := S.call0 r
      clear r
      kspl_open go
      refine nw_tuple S (.cons (.int _ _) (.cons (.int _ _) (.cons (.int _ _) .nil))) fun aT s₁ K₃ hle₃ S hT => ?_
      kspl_open go
      have hll : la.length ≤ j := by rw [hla.length, List.length_map]; exact rowsTo_len x y j
      kspl_open ap
      kspl_open go
      exact hNl _ _ _ _ _ rfl hle₃ (fun _ kJ => nlJ_to (rowsTo_yes (by exact om221 hge)) kJ _ _ (by rw [List.map_append]; exact (hla.mono hle₃).snoc hT)) (S.unV hLv)
    · kspl_open go
      kspl_open nx
      exact nlJ_to (rowsTo_no (by exact om188 hlt)) kJ _ _ hla
  · intro K₂ s₁ hle₂ tt la hla S
    kspl_open gv
    kspl_open go
    refine St.frzL S List.not_mem_nil hla fun K₃ hle₃ rc S => ?_
    exact h _ _ _ S.ret rc.rd

abbrev weqFd : Fd := fdIn "Whitespace.equal" (wsS 4)
theorem weq_scope : ScopeOk weqFd.S ["self", "other"] [] := by
  refine ⟨by rfl, by decide, by decide +kernel, (fun _ h => nomatch h), by decide +kernel, by exact ⟨rfl, rfl⟩⟩
theorem norm_shaped (x : WS) : SeqAt.shaped (.tuple [.tuple (x.count.map dI), dI x.b]) = true := by
  unfold SeqAt.shaped
  have h1 : PyData.canLayAll0 (x.count.map dI) = true := canLay_map _ _ fun _ _ => rfl
  have h2 : PyData.depthAll (x.count.map dI) ≤ 1 := depth_map _ _ _ fun _ _ => by simp [PyData.depth]
  simp only [PyData.canLay0, PyData.canLayAll0, h1, PyData.depth, PyData.depthAll, Bool.and_self, Bool.true_and]
  exact decide_eq_true (by exact om222 h2)
set_option maxHeartbeats 4000000 in
theorem weq_spec {prog : Program} {w : World} {A : Around} {E : Value → Shared → Prop} {s : Shared} {K : KP} {k : Nat} {v u : Value} {x y : WS} {P : Params} {Q : Value → Shared → Prop}
    (hX : InK (KFh P) K) (hG : GB K gl bl) (hK : ∀ b o, K b o → s.heap.get? b = some o) (hA : AOk A (k + 1)) (hV : WsO K v x) (hU : WsO K u y)
    (h : ∀ K' s', Ret K s [] s.gens K' s' → Q (.bool (decide (x.count = y.count ∧ x.b = y.b))) s') :
    wpAny (model prog w) A (call (.ref 76) [v, u]) Q E s := by
  refine call_fun (vals := [some v, some u]) (f_weq hX) hG hK hA weq_scope (ps := ["self", "other"]) (ls := []) rfl rfl rfl (fun _ _ _ _ _ => rfl) fun L env s₁ A Nn hL hA he S hNn => ?_
  kspl_open gv
  kspl_open go
  refine ws_norm S hX hV fun a s₁ S ra => ?_
  kspl_open go
  refine ws_norm S hX hU fun b s₁ S rb => ?_
  kspl_open go
  refine eq_rd S ra rb (norm_shaped x) (norm_shaped y) hA ?_
  kspl_open go
  have e : PyData.eqv (.tuple [.tuple (x.count.map dI), dI x.b]) (.tuple [.tuple (y.count.map dI), dI y.b]) = decide (x.count = y.count ∧ x.b = y.b) := by
    simp only [PyData.eqv, PyData.eqvAll, eqv_nats, Bool.and_true]
    by_cases h1 : x.count = y.count <;> by_cases h2 : x.b = y.b <;> simp [h1, h2] <;> exact om79 h2
  rw [e]
  exact h _ _ S.ret

abbrev wlsFd : Fd := fdIn "Whitespace.less" (wsS 6)
abbrev wlsN : List Str := ["self", "other", "n", "ts"]
theorem wls_scope : ScopeOk wlsFd.S wlsN ["max", "range"] := by
  refine ⟨by rfl, by decide, by decide +kernel, by decide +kernel, by decide +kernel, by exact ⟨rfl, rfl⟩⟩
def simple (x : WS) : Bool := decide (x.count.length ≤ 1)
def lessB (x y : WS) : Bool := if x.n ≥ y.n then false else if simple x = true ∧ simple y = true then decide (x.nt ≤ y.nt) else
  (List.range (many2 x y - 1)).all fun j => decide (ilv x (j + 2) < ilv y (j + 2))
set_option maxRecDepth 100000 in
set_option maxHeartbeats 4000000 in
theorem wls_spec {prog : Program} {w : World} {A : Around} {E : Value → Shared → Prop} {s : Shared} {K : KP} {k : Nat} {v u : Value} {x y : WS} {P : Params} {Q : Value → Shared → Prop}
    (hX : InK (KFh P) K) (hG : GB K gl bl) (hK : ∀ b o, K b o → s.heap.get? b = some o) (hA : AOk A (k + 2)) (hV : WsO K v x) (hU : WsO K u y) (hx : Small x) (hy : Small y)
    (h : ∀ K' s', Ret K s [] s.gens K' s' → Q (.bool (lessB x y)) s') :
    wpAny (model prog w) A (call (.ref 90) [v, u]) Q E s := by
  have xb := hx.b
  have xc := hx.c
  have yb := hy.b
  have yc := hy.c
  refine call_fun (vals := [some v, some u, none, none]) (f_wls hX) hG hK hA wls_scope (ps := ["self", "other"]) (ls := ["n", "ts"]) rfl rfl rfl (fun _ _ _ _ _ => rfl) fun L env s₁ A Nq hL hA he S hNn => ?_
  kspl_open gv
  have hN0 := hNn
  kspl_open go
  refine ws_n S hX hV fun t s₁ S => ?_
  kspl_open go
  refine ws_n S hX hU fun t s₁ S => ?_
  kspl_open go
  refine ite_d (fun hge => ?_) fun hlt => ?_
  · kspl_open go
    have e : lessB x y = false := by unfold lessB; rw [if_pos (by exact om221 hge)]
    rw [← e]
    exact h _ _ S.ret
  kspl_open go
  refine t_and2 ?_
  refine PyProof.Rows.isTrue_plain ?_
  kspl_open go
  refine ws_simple S hX hV fun s₁ S => ?_
  kspl_open go
  have tail : ∀ s₁ (_ : St ⟨s.heap, K, [], s.os⟩ s.gens K [(L, FrO wlsN [some v, some u, none, none])] s₁) (_ : ¬ (simple x = true ∧ simple y = true)),
      wpAny (model prog w) A (execs (wlsFd.B.drop 2) env) Nq (fun _ _ => False) s₁ := by
    intro s₁ S hns
    have hNn := hN0
    kspl_open gv
    kspl_open go
    refine ws_meth S hX hV (p_lr P) (by decide) ?_
    kspl_open go
    refine callWith_K0 (hX.in_ S) (k_lr P) ?_
    refine wlr_spec hX hG S.kept hA hV (by exact om212 xc) fun t K' s₁ r => ?_
    have S := S.call0 r
    clear r
    kspl_open go
    refine ws_meth S hX hU (p_lr P) (by decide) ?_
    kspl_open go
    refine callWith_K0 (hX.in_ S) (k_lr P) ?_
    refine wlr_spec hX hG S.kept hA hU (by exact om212 yc) fun t K' s₁ r => ?_
    have S := S.call0 r
    clear r
    kspl_open go
    refine c_max S hL hA.handled fun t s₁ S => ?_
    kspl_open go
    have e0 : max (lrun x : Int) (lrun y : Int) + 1 = (many2 x y : Nat) := by unfold many2; exact om220
    have hm : many2 x y < 2 ^ 20 := by unfold many2 lrun; exact om219 xb xc yb yc
    have e9 : lessB x y = (List.range (many2 x y - 1)).all fun j => decide (ilv x (j + 2) < ilv y (j + 2)) := by
      unfold lessB; rw [if_neg (by exact om188 hlt), if_neg hns]
    have hm1 : 1 ≤ many2 x y := by unfold many2; exact om218
    rw [e0] at hLv ⊢
    rw [e9] at h
    clear e9
    generalize many2 x y = n at *
    refine c_range2 S fun r s₁ K₁ hle₁ S hr => ?_
    refine it_rngA (a' := 2) (n' := n + 1) S hA.handled hr rfl rfl (by decide) (Nat.lt_of_le_of_lt hm (by decide)) fun I s₁ S W => ?_
    kspl_open bk
    refine for_j (lsJ v u n _ x y) S hL (W.imp (show n + 1 - 2 = n - 1 from rfl) fun _ _ _ h => h).rngB (fun _ kJ => kJ _ fun _ h => absurd h (Nat.not_lt_zero _)) ?_ ?_
    · intro j K₂ s₁ PI E' Nn hj hle₂ hNl hNx tt hall S tj
      kspl_open gv
      have hX := hX.mono (hle₁.trans hle₂)
      have hG := hG.mono (hle₁.trans hle₂)
      have hV := hV.mono (hle₁.trans hle₂)
      have hU := hU.mono (hle₁.trans hle₂)
      refine wpAny_assign_Name ?_
      kspl_open go
      refine ws_meth S hX hV (p_il P) (by decide) ?_
      kspl_open go
      refine callWith_K (hX.in_ S) (k_il P) ?_
      kspl_open go
      refine ⟨hX.in_ S, wil_spec hX hG S.kept hA hV (by exact om212 xc) (by exact om211) (by exact om210 hm hj) fun t K' s₁ r => ?_⟩
      have S := S.call0 r
      clear r
      kspl_open go
      refine ws_meth S hX hU (p_il P) (by decide) ?_
      kspl_open go
      refine callWith_K (hX.in_ S) (k_il P) ?_
      kspl_open go
      refine ⟨hX.in_ S, wil_spec hX hG S.kept hA hU (by exact om212 yc) (by exact om211) (by exact om210 hm hj) fun t K' s₁ r => ?_⟩
      have S := S.call0 r
      clear r
      kspl_open go
      refine ite_d (fun hge => ?_) fun hlt => ?_
      · kspl_open go
        have e : ((List.range (n - 1)).all fun j => decide (ilv x (j + 2) < ilv y (j + 2))) = false := by
          rw [List.all_eq_false]
          exact ⟨j, List.mem_range.mpr hj, by simp; exact om209 hge⟩
        rw [e] at h
        refine hNx _ _ (hNn _ _ ?_)
        clear hNn
        refine hNn _ _ ?_
        exact h _ _ S.ret
      · kspl_open go
        kspl_open nx
        refine kJ _ fun i hi => ?_
        rcases Nat.lt_succ_iff_lt_or_eq.mp hi with h1 | h1
        · exact hall i h1
        · rw [h1]; exact om208 hlt
    · intro K₂ s₁ hle₂ tt hall S
      kspl_open gv
      kspl_open go
      have e : ((List.range (n - 1)).all fun j => decide (ilv x (j + 2) < ilv y (j + 2))) = true := by
        rw [List.all_eq_true]
        intro i hi
        exact decide_eq_true (hall i (List.mem_range.mp hi))
      rw [e] at h
      exact h _ _ S.ret
  refine ite_b (fun hsx => ?_) fun hsx => ?_
  · refine PyProof.Rows.isTrue_plain ?_
    kspl_open go
    refine ws_simple S hX hU fun s₁ S => ?_
    kspl_open go
    refine ite_b (fun hsy => ?_) fun hsy => ?_
    · kspl_open go
      refine ws_nt S hX hV fun t s₁ S => ?_
      kspl_open go
      refine ws_nt S hX hU fun t s₁ S => ?_
      kspl_open go
      have e : decide ((x.nt : Int) ≤ (y.nt : Int)) = lessB x y := by
        unfold lessB; rw [if_neg (by exact om188 hlt), if_pos ⟨hsx, hsy⟩]
        by_cases hq : x.nt ≤ y.nt
        · rw [decide_eq_true hq, decide_eq_true (by exact om207 hq)]
        · rw [decide_eq_false hq, decide_eq_false (by exact om206 hq)]
      rw [e]
      exact h _ _ S.ret
    · kspl_open one
      kspl_open bk
      exact hNn _ _ (tail _ S fun hh => by have h2 := hh.2; rw [simple, hsy] at h2; exact nomatch h2)
  · simp only [Bool.false_eq_true, if_false]
    kspl_open one
    kspl_open bk
    exact hNn _ _ (tail _ S fun hh => by have h2 := hh.1; rw [simple, hsx] at h2; exact nomatch h2)
end

section
section
set_option maxRecDepth 100000
variable {P : Params} {K : KP}
end
abbrev cstFd : Fd := fdIn "Headers._convert_string_type" (hdS 1)
abbrev cstN : List Str := ["self", "value", "name", "regex"]
abbrev cstG : List Str := ["type", "str", "_name_disallowed_re", "_value_disallowed_re"]
theorem cst_scope : ScopeOk cstFd.S cstN cstG := by
  refine ⟨by rfl, by decide, by decide +kernel, by decide +kernel, by decide +kernel, by exact ⟨rfl, rfl⟩⟩
def rxOf (b : Bool) : Array Nat := if b then Rx.nameCode else Rx.valCode
set_option maxRecDepth 100000 in
set_option maxHeartbeats 4000000 in
theorem cst_spec {prog : Program} {w : World} {A : Around} {E : Value → Shared → Prop} {s : Shared} {K : KP} {k : Nat} {v : Value} {x : Str} {t : Tok} {b : Bool} {P : Params} {Q : Value → Shared → Prop}
    (hX : InK (KFh P) K) (hG : GB K gl bl) (hK : ∀ b o, K b o → s.heap.get? b = some o) (hA : AOk A (k + 1)) (hq : Rx.quietFor (rxOf b) x = true) (hx : x.cps.size < 100)
    (h : ∀ K' s', Ret K s [] s.gens K' s' → Q (.str x t) s') :
    wpAny (model prog w) A (call (.ref 177) [v, .str x t] [("name", .bool b)]) Q E s := by
  refine wpAny_call (code_fun (c := ⟨s.heap, K, [], s.os⟩) (h0 := s.heap) (names := cstN) (ls := ["regex"]) (fun bs own1 => bs = [(("self" : Str), v), (("value" : Str), .str x t), (("name" : Str), .bool b)] ∧ own1 = []) (St.start s K [] hK) (f_hcst hX) hG hA cst_scope ?_ ?_ ?_)
  · rintro bs own1 ⟨rfl, rfl⟩; rfl
  · intro doc pm an cd ct Q' E' A' hh
    have e : bindArgs (fnOf cstFd.name cstFd.qual cstFd.P cstFd.B cstFd.S .none .none doc pm an cd ct) ⟨[v, .str x t], [("name", .bool b)]⟩ = pure [(("self" : Str), v), (("value" : Str), .str x t), (("name" : Str), .bool b)] := by rfl
    rw [e]
    exact wpAny_pure (hh _ _ _ ⟨rfl, rfl⟩ (St.start s K [] hK))
  rintro bs own1 L env s₁ A Nn ⟨rfl, rfl⟩ hL hA he S hNn
  change St _ _ _ ((L, FrO cstN [some v, some (.str x t), some (.bool b), none]) :: []) s₁ at S
  kspl_open gv
  kspl_open go
  refine c_type (typeIs_str _ _ _) (by decide) ?_
  kspl_open go
  refine wpAny_is_self (by rfl) ?_
  kspl_open go
  refine ite_b (fun _ => ?_) fun h => nomatch h
  kspl_open go
  refine ite_b (fun hb => ?_) fun hb => ?_
  · subst hb
    refine notnot fun hGoal => ?_
    obtain ⟨px, pt, fl, items, n, k1, k2, k3⟩ := rx_name hX
    refine hGoal ?_
    clear hGoal
    kspl_open go
    refine PyProof.Rows.isTrue_plain ?_
    kspl_open go
    refine Rx.m_search (S.kept _ _ k1) rfl rfl ?_
    kspl_open go
    refine Rx.c_search (S.kept _ _ k1) (S.kept _ _ k2) k3 hq hx ?_
    kspl_open go
    refine PyProof.Rows.truthy_none ?_
    rw [if_neg Bool.false_ne_true]
    kspl_open go
    exact h _ _ S.ret
  · subst hb
    refine notnot fun hGoal => ?_
    obtain ⟨px, pt, fl, items, n, k1, k2, k3⟩ := rx_val hX
    refine hGoal ?_
    clear hGoal
    kspl_open go
    refine PyProof.Rows.isTrue_plain ?_
    kspl_open go
    refine Rx.m_search (S.kept _ _ k1) rfl rfl ?_
    kspl_open go
    refine Rx.c_search (S.kept _ _ k1) (S.kept _ _ k2) k3 hq hx ?_
    kspl_open go
    refine PyProof.Rows.truthy_none ?_
    rw [if_neg Bool.false_ne_true]
    kspl_open go
    exact h _ _ S.ret

-- Headers()
theorem St.listTy {c : Cx} {g : Gs} {K : KP} {own : Own} {s : Shared} {a : Addr} {vs : List Value} (S : St c g K own s) (h : (a, LpO vs) ∈ own) : s.TypeIs (.ref a) "list" := by
  refine notnot fun hGoal => ?_
  obtain ⟨o, e, hc, _⟩ := S.listAt h
  refine hGoal ?_
  clear hGoal
  exact ⟨o, e, hc⟩
abbrev hiniFd : Fd := fdIn "Headers.__init__" (hdS 0)
abbrev hiniN : List Str := ["self", "headers", "k", "v"]
theorem hini_scope : ScopeOk hiniFd.S hiniN ["type", "list"] := by
  refine ⟨by rfl, by decide, by decide +kernel, by decide +kernel, by decide +kernel, by exact ⟨rfl, rfl⟩⟩
/-- v is a Headers whose rows are the list aL -/
inductive HdO (K : KP) : Value → Addr → Prop
  | mk {x dx aL : Addr} {o : Obj} (hI : K x (instObj 276 dx)) (hD : K dx o) (hO : AtO [("_headers", .ref aL)] o) : HdO K (.ref x) aL
theorem HdO.mono {K K' : KP} {v : Value} {aL : Addr} (h : HdO K v aL) (l : Le K K') : HdO K' v aL := by
  cases h with | mk a b c => exact .mk (l _ _ a) (l _ _ b) c
set_option maxRecDepth 100000 in
set_option maxHeartbeats 4000000 in
theorem hini_code {prog : Program} {w : World} {A : Around} {c : Cx} {g : Gs} {K : KP} {rest : Own} {s : Shared} {k : Nat} {x dx : Addr} {P : Params} {R : Result → Shared → Prop}
    (S : St c g K ((dx, AtO []) :: rest) s) (hm : dx ∉ c.mu) (hX : InK (KFh P) K) (hG : GB K gl bl) (hA : AOk A (k + 1)) (hI : K x (instObj 276 dx))
    (h : ∀ K' aL s', Le K K' → St c g K' ((aL, LpO []) :: rest) s' → HdO K' (.ref x) aL → R (.ok (.ret .none)) s') :
    codeAny (model prog w) A (.call (.ref 170) ⟨[.ref x], []⟩) R s := by
  refine code_fun (h0 := s.heap) (names := hiniN) (ls := ["k", "v"]) (fun bs own1 => bs = [(("self" : Str), .ref x), (("headers" : Str), .none)] ∧ own1 = (dx, AtO []) :: rest) S (f_hini hX) hG hA hini_scope ?_ ?_ ?_
  · rintro bs own1 ⟨rfl, rfl⟩; rfl
  · intro doc pm an cd ct Q' E' A' hh
    refine notnot fun hGoal => ?_
    obtain ⟨o, n, k1, k2⟩ := f_d163 hX
    refine hGoal ?_
    clear hGoal
    refine BindsTo.of_defaults (binds := [(("self" : Str), .ref x), (("headers" : Str), .none)]) rfl (S.kept _ _ k1) k2 (by rfl) (by rfl) _ _ _ _ ?_
    exact hh _ _ _ ⟨rfl, rfl⟩ S
  rintro bs own1 L env s₁ A Nn ⟨rfl, rfl⟩ hL hA he S hNn
  change St _ _ _ ((L, FrO hiniN [some (.ref x), some .none, none, none]) :: (dx, AtO []) :: rest) s₁ at S
  kspl_open gv
  kspl_open go
  refine PyProof.Rows.isnot_none_none ?_
  kspl_open go
  rw [if_neg Bool.false_ne_true]
  kspl_open go
  refine nw_list S fun aL s₁ S => ?_
  kspl_open go
  refine' c_type (St.listTy (vs := []) S ?zm) (by decide) ?_
  case zm => kspl_open me
  kspl_open go
  refine wpAny_isNot_self (by rfl) ?_
  kspl_open go
  rw [if_neg Bool.false_ne_true]
  kspl_open go
  refine' at_set (l := []) (name := "_headers") S hL hX hI ?zu (h_set P) (Nat.le_of_ble_eq_true rfl) ?_
  case zu => kspl_open ou
  intro s₁ S
  change St c g K ((L, NsO _) :: (aL, LpO []) :: (dx, AtO [("_headers", Value.ref aL)]) :: rest) s₁ at S
  kspl_open go
  refine PyProof.Rows.isTrue_plain ?_
  kspl_open go
  rw [if_pos rfl]
  kspl_open one
  kspl_open bk
  refine' for_ls0 S hL hA.handled he ?zi ?zm ?_
  case zi => kspl_open ix
  case zm => kspl_open me
  intro s₁ S
  kspl_open go
  refine notnot fun hGoal => ?_
  obtain ⟨o, ho, S⟩ := St.freeze1 (S.swap1) hm
  refine hGoal ?_
  clear hGoal
  exact h _ _ _ (le_add _ _ _) S.drop0 (.mk (.inl hI) (.inr ⟨rfl, rfl⟩) ho)

theorem hmake_spec {prog : Program} {w : World} {A : Around} {E : Value → Shared → Prop} {c : Cx} {g : Gs} {K : KP} {rest : Own} {p : Addr × Pr} {s : Shared} {k : Nat} {P : Params} {Q : Value → Shared → Prop}
    (S : St c g K (p :: rest) s) (hz : ∀ b ∈ c.mu, b < s.heap.objs.size) (hX : InK (KFh P) K) (hG : GB K gl bl) (hA : AOk A (k + 2))
    (h : ∀ v K' aL s', Le K K' → St c g K' ((aL, LpO []) :: p :: rest) s' → HdO K' v aL → Q v s') :
    wpAny (model prog w) A (call (.ref 276) []) Q E s := by
  have S1 := (S.alloc (P := AtO []) emptyDict ⟨[], 0, rfl, .nil⟩ rfl s.toks).swap
  have S2 := S1.allocK (instObj 276 s.heap.objs.size) rfl s.toks
  have hle := le_add K (s.heap.push emptyDict).objs.size (instObj 276 s.heap.objs.size)
  have hI : (K.add (s.heap.push emptyDict).objs.size (instObj 276 s.heap.objs.size)) (s.heap.objs.size + 1) (instObj 276 s.heap.objs.size) := .inr ⟨by rw [Heap.size_push], rfl⟩
  refine wpAny_call (make_core (makes_of (hX.in_ S) (h_make P)) (looks_findIn (hX.in_ S) (h_init P)) (fun self => bind_fn (hX.in_ S) self (h_fn P)) (.inl rfl) ?_)
  refine hini_code (k := k) S2 (fun hm => absurd (hz _ hm) (Nat.lt_irrefl _)) (hX.mono hle) (hG.mono hle) hA.makes hI fun K' aL s' hle' S hW => ⟨rfl, ?_⟩
  exact h _ _ _ _ (hle.trans hle') S hW

-- add_header
abbrev haddFd : Fd := fdIn "Headers.add_header" (hdS 16)
abbrev haddN : List Str := ["self", "_name", "_value", "_params", "parts", "k", "v"]
theorem hadd_scope : ScopeOk haddFd.S haddN [] := by
  refine ⟨by rfl, by decide, by decide +kernel, (fun _ h => nomatch h), by decide +kernel, by exact ⟨rfl, rfl⟩⟩
theorem sysSmall : sysModules < 276 := by decide
theorem hd_rows {prog : Program} {w : World} {A : Around} {E : Value → Shared → Prop} {c : Cx} {g : Gs} {K : KP} {own : Own} {s : Shared} {P : Params} {v : Value} {aL : Addr} {expr : Bool} {Q : Value → Shared → Prop} (S : St c g K own s) (X : InK (KFh P) K) (hW : HdO K v aL) (h : ∀ s', St c g K own s' → Q (.ref aL) s') : wpAny (model prog w) A (getAttr v "_headers" expr) Q E s := by
  cases hW with | @mk x dx _ o hI hD hO
  exact at_get S X hI ⟨o, S.kept _ _ hD, hO⟩ (h_own P) rfl rfl fun s' S' => h _ S'
theorem hd_meth {prog : Program} {w : World} {A : Around} {E : Value → Shared → Prop} {c : Cx} {g : Gs} {K : KP} {own : Own} {s : Shared} {P : Params} {v : Value} {aL : Addr} {f : Addr} {name : Str} {pl : Sem Bool} {Q : Value × List Value → Shared → Prop} (S : St c g K own s) (X : InK (KFh P) K) (hW : HdO K v aL)
    (hf : plainGet (KFh P) 276 name = true ∧ findIn (KFh P) (.ref 276) name = some (some (.ref f)) ∧ isFn (KFh P) (.ref f) = true) (hn : (name == ("_headers" : Str)) = false) (h : Q (.ref f, [v]) s) :
    wpAny (model prog w) A (getMethod v name pl) Q E s := by
  cases hW with | @mk x dx _ o hI hD hO
  refine at_meth S X hI ⟨o, S.kept _ _ hD, hO⟩ hf.1 hf.2.1 hf.2.2 ?_ h
  simp [List.lookup_cons, hn]
theorem jn1 (x : Str) (h : x.cps.size < 100) : JoinOk "; " [x] = true ∧ Txt.join "; " [x] = x :=
  ⟨joinOk_of_weight (by have : x.length < 100 := h
                        simp only [List.map_cons, List.map_nil, List.sum_cons, List.sum_nil, List.length_cons, List.length_nil]; exact om230 this) (by decide), rfl⟩
set_option maxRecDepth 100000 in
set_option maxHeartbeats 4000000 in
theorem hadd_code {prog : Program} {w : World} {A : Around} {c : Cx} {g : Gs} {K : KP} {own : Own} {own' : Value → Own} {s : Shared} {k : Nat} {v : Value} {aL : Addr} {vs : List Value} {x y : Str} {tx ty : Tok} {P : Params} {R : Result → Shared → Prop}
    (S : St c g K own s) (hX : InK (KFh P) K) (hG : GB K gl bl) (hA : AOk A (k + 2)) (hV : HdO K v aL) (hm : (aL, LpO vs) ∈ own) (hu : ∀ r, OwnUp own aL (LpO vs) (LpO (vs ++ [r])) (own' r)) (hl : vs.length ≤ 200)
    (hqx : Rx.quietFor Rx.nameCode x = true) (hx : x.cps.size < 100) (hqy : Rx.quietFor Rx.valCode y = true) (hy : y.cps.size < 100)
    (h : ∀ K' r s', Le K K' → St c g K' (own' r) s' → Rd K' r (.tuple [.str x, .str y]) → R (.ok (.ret .none)) s') :
    codeAny (model prog w) A (.call (.ref 273) ⟨[v, .str x tx, .str y ty], []⟩) R s := by
  refine code_fun (h0 := s.heap) (names := haddN) (ls := ["parts", "k", "v"]) (fun bs own1 => ∃ d, bs = [(("self" : Str), v), (("_name" : Str), .str x tx), (("_value" : Str), .str y ty), (("_params" : Str), .ref d)] ∧ own1 = (d, fun o => o = emptyD) :: own ∧ (d == sysModules) = false) S (f_hadd hX) hG hA hadd_scope ?_ ?_ ?_
  · rintro bs own1 ⟨d, rfl, rfl, _⟩; rfl
  · intro doc pm an cd ct Q' E' A' hh
    have e : bindArgs (fnOf haddFd.name haddFd.qual haddFd.P haddFd.B haddFd.S .none .none doc pm an cd ct) ⟨[v, .str x tx, .str y ty], []⟩ = (alloc emptyD >>= fun d => pure [(("self" : Str), v), (("_name" : Str), .str x tx), (("_value" : Str), .str y ty), (("_params" : Str), .ref d)]) := by rfl
    rw [e]
    refine wpAny_bind (wpAny_alloc (wpAny_pure (hh _ _ _ ⟨_, rfl, rfl, ?_⟩ ?_)))
    · obtain ⟨o, ho⟩ := f_o276 hX
      have hlt : 276 < s.heap.objs.size := S.Klt ho
      have := sysSmall
      rw [beq_eq_false_iff_ne]
      exact Nat.ne_of_gt (Nat.lt_trans this hlt)
    · have S' := S.grow (h' := s.heap.push emptyD) s.toks (fun b o e => Heap.get?_push_of_some _ e) (by rw [Heap.size_push]; exact Nat.le_succ _)
      exact S'.addOwn ⟨emptyD, Heap.get?_push_size _ rfl, rfl⟩ S.size (fun p hp => Nat.ne_of_gt (S.lt hp)) fun b o hk => Nat.ne_of_lt (S.Klt hk)
  rintro bs own1 L env s₁ A Nn ⟨d, rfl, rfl, hds⟩ hL hA he S hNn
  change St _ _ _ ((L, FrO haddN [some v, some (.str x tx), some (.str y ty), some (.ref d), none, none, none]) :: (d, fun o => o = emptyD) :: own) s₁ at S
  kspl_open gv
  kspl_open go
  refine nw_list S fun aP s₁ S => ?_
  kspl_open go
  refine PyProof.Rows.isnot_str_none ?_
  kspl_open go
  rw [if_pos rfl]
  kspl_open go
  refine methodCall_KW ?_
  kspl_open go
  refine hd_meth S hX hV (p_hcst P) (by decide) ?_
  refine callWith_KW (hX.in_ S) (k_hcst P) (by rfl) ?_
  kspl_open go
  refine kwAll_cons ?_
  kspl_open go
  refine kwAll_nil ⟨hX.in_ S, ?_⟩
  refine cst_spec (b := false) hX hG S.kept hA hqy hy fun K' s₁ r => ?_
  have S := S.call0 r
  clear r
  kspl_open go
  kspl_open ma
  kspl_open go
  refine' c_append (vs := []) S ?zu (Nat.zero_le _) ?_
  case zu => kspl_open ou
  clear S
  intro s₁ S
  change St c g K ((L, NsO _) :: (aP, LpO [.str y ty]) :: (d, fun o => o = emptyD) :: own) s₁ at S
  kspl_open one
  kspl_open one
  kspl_open bk
  refine' for_items0 S hL hA.handled he ?zi (he.all _ (by decide)).1 (he.all _ (by decide)).1 ?zm hds (by decide) ?_
  case zi => kspl_open ix
  case zm => kspl_open me
  clear S
  intro s₁ S
  kspl_open go
  refine hd_rows S hX hV fun s₁ S => ?_
  refine m_append S (.tail _ (.tail _ (.tail _ hm))) ?_
  kspl_open go
  refine methodCall_KW ?_
  kspl_open go
  refine hd_meth S hX hV (p_hcst P) (by decide) ?_
  refine callWith_KW (hX.in_ S) (k_hcst P) (by rfl) ?_
  kspl_open go
  refine kwAll_cons ?_
  kspl_open go
  refine kwAll_nil ⟨hX.in_ S, ?_⟩
  refine cst_spec (b := true) hX hG S.kept hA hqx hx fun K' s₁ r => ?_
  have S := S.call0 r
  clear r
  kspl_open go
  refine GM.join ?_
  kspl_open go
  obtain ⟨j1, j2⟩ := jn1 y hy
  refine' c_join1 S ?zm j1 fun t s₁ S => ?_
  case zm => kspl_open me
  rw [j2]
  kspl_open go
  refine nw_tuple S (.cons (.str _ _) (.cons (.str _ _) .nil)) fun aT s₁ K₁ hle₁ S hT => ?_
  kspl_open go
  refine c_append S (.there (.there (.there (hu (.ref aT))))) (by show _ ≤ 2 ^ 24; exact om229 hl) fun s₁ S => ?_
  kspl_open go
  exact h _ _ _ hle₁ S.drop0.drop0.drop0 hT
end

section
section
set_option maxRecDepth 100000
variable {P : Params} {K : KP}
end
abbrev hallFd : Fd := fdIn "Headers.get_all" (hdS 7)
theorem hall_scope : ScopeOkC hallFd.S ["self"] [] := by
  refine ⟨by rfl, by decide, by decide +kernel, (fun _ h => nomatch h), by exact ⟨rfl, rfl⟩⟩
abbrev Row2 := Str × Str
abbrev dRow2 (r : Row2) : PyData := .tuple [.str r.1, .str r.2]
def rowsOf (rows : List Row2) (key : Str) : List Str := (rows.filter fun r => Txt.lower r.1 == key).map (·.2)
theorem rows_yes {rows : List Row2} {x : Str} {j : Nat} {r : Row2} (h : rows[j]? = some r) (hb : (Txt.lower r.1 == x) = true) : rowsOf (rows.take (j + 1)) x = rowsOf (rows.take j) x ++ [r.2] := by
  have hsnoc : rows.take (j + 1) = rows.take j ++ [r] := by rw [List.take_add_one, h]; rfl
  unfold rowsOf
  rw [hsnoc, List.filter_append, List.map_append]
  simp [List.filter_cons, hb]
theorem rows_no {rows : List Row2} {x : Str} {j : Nat} {r : Row2} (h : rows[j]? = some r) (hb : (Txt.lower r.1 == x) = false) : rowsOf (rows.take (j + 1)) x = rowsOf (rows.take j) x := by
  have hsnoc : rows.take (j + 1) = rows.take j ++ [r] := by rw [List.take_add_one, h]; rfl
  unfold rowsOf
  rw [hsnoc, List.filter_append, List.map_append]
  simp [List.filter_cons, hb]
set_option maxRecDepth 100000 in
set_option maxHeartbeats 4000000 in
theorem hall_spec {prog : Program} {w : World} {A : Around} {E : Value → Shared → Prop} {s : Shared} {K : KP} {k : Nat} {v : Value} {aL : Addr} {rows : List Row2} {x : Str} {t : Tok} {P : Params} {Q : Value → Shared → Prop}
    (hX : InK (KFh P) K) (hG : GB K gl bl) (hK : ∀ b o, K b o → s.heap.get? b = some o) (hA : AOk A (k + 2)) (hV : HdO K v aL) (hR : Rd K (.ref aL) (.list (rows.map dRow2))) (hlen : rows.length ≤ 200)
    (hq : Rx.quietFor Rx.nameCode (Txt.lower x) = true) (hx : (Txt.lower x).cps.size < 100) (hr : ∀ r ∈ rows, (Txt.lower r.1).cps.size < 100)
    (h : ∀ r K' s', Ret K s [] s.gens K' s' → Rd K' r (.list ((rowsOf rows (Txt.lower x)).map PyData.str)) → Q r s') :
    wpAny (model prog w) A (call (.ref 215) [v, .str x t]) Q E s := by
  have tl : ∀ y : Str, (Txt.lower y).cps.size < 100 → Builtin.Str.tooLong (Txt.lower y).length = false := by
    intro y hy
    have : (Txt.lower y).length < 100 := hy
    unfold Builtin.Str.tooLong
    exact decide_eq_false (Nat.not_lt_of_le (Nat.le_trans (Nat.le_of_lt this) (by decide)))
  refine wpAny_call (code_funX (c := ⟨s.heap, K, [], s.os⟩) (names := ["self"]) (vals := [some v]) (bs := [(("self" : Str), v), (("name" : Str), .str x t)]) (fun n => [("name", n)]) (St.start s K [] hK) (x_hall hX) hG hA hall_scope (fun _ _ _ _ => BindsTo.of_eq (by rfl)) ?_ (fun _ => rfl) (by intro n p hp; rw [List.mem_singleton.mp hp]; rfl) ?_ ?_)
  · intro y
    by_cases e : y = "self"
    · subst e; rfl
    · show (if _ then _ else _) = _
      simp [vm, e]
  · intro n y hy
    simp only [List.mem_cons, List.not_mem_nil, or_false] at hy
    rcases hy with rfl | rfl
    · exact .inl rfl
    · exact .inr ⟨rfl, rfl⟩
  intro L env s₁ A Nn hL hA he hcs hsc _ _ S hNn
  change St _ _ _ ((L, FrO ["self"] [some v]) :: (L + 1, CellO (some (.str x t))) :: []) s₁ at S
  kspl_open gv
  have hk : env.kindOf "name" = some .cell := by unfold Env.kindOf; rw [hsc]; rfl
  have hc : CelF env "name" (L + 1) := ⟨.inl hk, by rw [hcs]; rfl, by decide, by decide⟩
  kspl_open go
  refine methodCall_KW ?_
  kspl_open go
  refine hd_meth S hX hV (p_hcst P) (by decide) ?_
  refine callWith_KW (hX.in_ S) (k_hcst P) (by rfl) ?_
  kspl_open go
  kspl_open cel
  refine GM.lower ?_
  kspl_open go
  refine c_lower S (tl x hx) fun t s₁ S => ?_
  kspl_open go
  refine kwAll_cons ?_
  kspl_open go
  refine kwAll_nil ⟨hX.in_ S, ?_⟩
  refine cst_spec (b := true) hX hG S.kept hA hq hx fun K' s₁ r => ?_
  have S := S.call0 r
  clear r
  kspl_open stc
  kspl_open go
  refine ev_comp (cl := [("name", L + 1)]) ?_ rfl (by decide) ?_
  · rw [closureFor_of (fun y hy hf => ?_), hcs]
    · rfl
    · rw [hcs]
      refine ⟨L + 1, ?_⟩
      have : y ∈ [((".0" : Str), NameKind.local), ("kv", .local), ("name", .free)] := hy
      simp only [List.mem_cons, List.not_mem_nil, or_false] at this
      rcases this with rfl | rfl | rfl
      · cases hf
      · cases hf
      · rfl
  kspl_open go
  refine hd_rows S hX hV fun s₁ S => ?_
  refine it_rd S hA.handled hR fun I s₁ S W => ?_
  refine cmp_k (cgn := []) (fun j K' ys => RdAll K' ys ((rowsOf (rows.take j) (Txt.lower x)).map PyData.str)) S W.map (by decide) rfl (comp_env he rfl (by decide) (fun _ h => nomatch h)) (by show _ ≤ 2 ^ 24; exact om229 hlen) .nil ?_ ?_ ?_
  · intro j K₂ ys s₁ PI2 C D E' Nn Nf hj hle₂ hrs he' hC hNl hNf r rv hrj rd S
    have he := he'
    have hc := he'.cel hc rfl rfl
    have hsm := hr r (List.mem_of_getElem? hrj)
    refine one_if ?_
    kspl_open go
    refine sub_tup S (rd.mono hle₂) rfl rfl (by decide) fun v0 r0 => Rd.strC (C := fun v => wpAny _ _ (getMethod v _ _) _ _ _) r0 fun t0 => ?_
    refine GM.lower ?_
    kspl_open go
    refine c_lower S (tl r.1 hsm) fun t1 s₁ S => ?_
    kspl_open go
    kspl_open cel
    refine PyProof.Rows.eq_str ?_
    kspl_open go
    refine ite_b (fun hb => ?_) fun hb => ?_
    · kspl_open go
      refine sub_tup S (rd.mono hle₂) rfl rfl (by decide) fun v1 r1 => ?_
      kspl_open go
      exact hNl _ _ _ _ (Le.refl _) (by rw [rows_yes hrj hb, List.map_append]; exact hrs.snoc r1) S
    · kspl_open go
      exact hNf _ _ _ (Le.refl _) (by rw [rows_no hrj hb]; exact hrs) S
  · intro j K₂ ys hrs
    have : (rowsOf (rows.take j) (Txt.lower x)).length ≤ (rows.take j).length := by
      unfold rowsOf; rw [List.length_map]; exact List.length_filter_le _ _
    rw [List.length_take] at this
    rw [hrs.length, List.length_map]; exact om231 this
  · intro K₂ ys s₁ D hle₂ hrs S
    rw [List.take_of_length_le (Nat.le_refl _)] at hrs
    have S := S.swap.drop1.swap
    refine St.frzL S.swap.swap List.not_mem_nil hrs fun K₃ hle₃ rc S => ?_
    kspl_open go
    exact h _ _ _ S.ret rc.rd
end

section
section
set_option maxRecDepth 100000
variable {P : Params} {K : KP}
end
abbrev fwFd : Fd := fdOf (topS 4)
abbrev fwN : List Str := ["w", "firsts", "prefix"]
theorem fw_scope : ScopeOkC fwFd.S fwN ["len"] := by
  refine ⟨by rfl, by decide, by decide +kernel, by decide +kernel, by exact ⟨rfl, rfl⟩⟩
def fwS (n : Nat) : Str := if n = 1 then "at tab size 1" else "at tab sizes 1, 2"
def firstsOf (n : Nat) : List Nat := if n = 1 then [1] else [1, 2]
set_option maxRecDepth 100000 in
set_option maxHeartbeats 4000000 in
theorem fw_code {prog : Program} {w : World} {A : Around} {c : Cx} {g : Gs} {K : KP} {own : Own} {s : Shared} {k n : Nat} {v : Value} {rows : List Row3} {P : Params} {R : Result → Shared → Prop}
    (S : St c g K own s) (hT : (106, TabO) ∈ own) (hX : InK (KFh P) K) (hG : GB K gl bl) (hB : BMK K) (hA : AOk A (k + 1)) (hgb : AllBare g) (hv : Rd K v (.list (rows.map dRow))) (hn : n = 1 ∨ n = 2) (hrows : rows.map (·.1) = firstsOf n)
    (h : ∀ g' s' t, AllBare g' → St c g' K own s' → R (.ok (.ret (.str (fwS n) t))) s') :
    codeAny (model prog w) A (.call (.ref 111) ⟨[v], []⟩) R s := by
  refine code_funX (names := fwN) (vals := [some v, none, none]) (bs := [(("w" : Str), v)]) (fun _ => []) S (x_fw hX) hG hA fw_scope (fun _ _ _ _ => BindsTo.of_eq (by rfl)) ?_ (fun _ => rfl) (by intro n p hp; exact nomatch hp) ?_ ?_
  · intro y
    by_cases e : y = "w"
    · subst e; rfl
    · show (if _ then _ else _) = _
      simp [vm, e]
  · intro n y hy
    rw [List.mem_singleton.mp hy]; exact .inl rfl
  intro L env s₁ A Nq hL hA he hcs hsc hcd _ S hNn
  have hN0 := hNn
  change St _ _ _ ((L, FrO fwN [some v, none, none]) :: own) s₁ at S
  kspl_open gv
  have hrl : rows.length = n := by
    have : (rows.map (·.1)).length = (firstsOf n).length := by rw [hrows]
    rw [List.length_map] at this
    rw [this]; rcases hn with rfl | rfl <;> rfl
  kspl_open go
  refine gx_make (ds := rows.map dRow) (n0 := k) (F := fun i z => ∃ y u, ((firstsOf n).map fun x : Nat => (Str.ofString (toString (x : Int))))[i]? = some y ∧ z = .str y u) S hT hA he hG hB hcd (fun h hh => codeHd_of_K (fun a o e => hh a o (hX a o e)) (hd_fw P)) hv (fun Q' q => ev_locM S he hLv .here q) rfl (closureFor_none (by decide)) (by decide) rfl rfl rfl ?_ ?_
  · intro A' E' i y d s₂ m₂ C code hA' hd ry hns hmx hk
    obtain ⟨r, hri, rfl⟩ : ∃ r, rows[i]? = some r ∧ dRow r = d := by simpa [List.getElem?_map] using hd
    have S0 := St.start s₂ K [] hk
    have he0 : EnvF (genEnv { kind := ScopeKind.function, names := [((".0" : Str), NameKind.local), ("tup", NameKind.local), ("str", NameKind.globalImplicit)], isGenerator := true, isCoroutine := false } [] C code builtinsNs env) C ["tup"] ["str"] :=
      ⟨rfl, rfl, he.glob, rfl, by simp, fun y hy => by rw [List.mem_singleton.mp hy]; exact ⟨rfl, by decide⟩, fun y hy => by rw [List.mem_singleton.mp hy]; exact ⟨rfl, by decide⟩⟩
    refine Call_ ?_
    refine' ev_blt S0 he0 hG ?a ?b ?_
    case a => kspl_open me
    case b => kspl_open me
    refine PyProof.Rows.callWith_type1 ?_
    refine spliced_more ?_
    refine Subscript_ ?_
    refine wpAny_Name (wpAny_loadName_local rfl rfl hns hmx ?_) (by decide)
    refine wpAny_Constant_int ?_
    refine sub_tup (S0.toks _) ry rfl rfl (by decide) fun v0 r0 => ?_
    obtain ⟨t0, rfl⟩ := r0.intE
    refine spliced_none ?_
    have hri1 : (rows.map (·.1))[i]? = some r.1 := by rw [List.getElem?_map, hri]; rfl
    rw [hrows] at hri1
    refine PySem.P.str_of_int ?_ ?_
    · have : r.1 = 1 ∨ r.1 = 2 := by
        have hm := List.mem_of_getElem? hri1
        unfold firstsOf at hm
        split at hm
        · exact .inl (List.mem_singleton.mp hm)
        · simpa using hm
      rcases this with e | e <;> rw [e] <;> decide
    · refine ⟨⟨_, _, ?_, rfl⟩, s₂.heap, _, rfl, fun _ _ e => e⟩
      rw [List.getElem?_map, hri1]; rfl
  · intro a C I oa oC oI gs s₁ hgs hCz hIz S hR
    have hgb' : AllBare (g.push gs) := hgb.push hgs
    have hnd := S.nd
    kspl_open go
    refine c_len_rd S hv (by rw [List.length_map]; exact om236 hn hrl) fun t s₁ S => ?_
    rw [List.length_map, hrl]
    kspl_open go
    have tail : ∀ (pre : Str) (t0 : Tok) s₁, St c (g.push gs) K ((L, FrO fwN [some v, some (.ref a), some (.str pre t0)]) :: (a, fun o => o = oa) :: (C, fun o => o = oC) :: (I, fun o => o = oI) :: own) s₁ →
        (pre ++ " " ++ Txt.join ", " ((firstsOf n).map fun x : Nat => (Str.ofString (toString (x : Int))))) = fwS n → pre.length ≤ 20 →
        wpAny (model prog w) A (execs (fwFd.B.drop 3) env) Nq (fun _ _ => False) s₁ := by
      intro pre t0 s₁ S hpre hpl
      have hNn := hN0
      kspl_open gv
      kspl_open go
      refine b_adds S (by show _ + 1 ≤ 2 ^ 24; exact om235 hpl) fun t s₁ S => ?_
      kspl_open go
      refine GM.join ?_
      kspl_open go
      have hfl : (firstsOf n).length = n := by rcases hn with rfl | rfl <;> rfl
      kspl_open bk
      refine' c_joinGen (own' := (L, FrO fwN [some v, some (.ref a), some (.str pre t0)]) :: own) (texts := (firstsOf n).map fun x : Nat => (Str.ofString (toString (x : Int)))) (p0 := (L, FrO fwN [some v, some (.ref a), some (.str pre t0)])) S ?hR ?ha ?hC ?hI hCz hIz (fun j y h => h) ?ok ?len ?own ?nd ?p0 hL hgb' ?go
      case hR => rw [List.length_map, hfl]; rw [List.length_map, hrl] at hR; exact hR
      case ha => kspl_open me
      case hC => kspl_open me
      case hI => kspl_open me
      case ok => rcases hn with rfl | rfl <;> decide +kernel
      case len => rw [List.length_map, hfl]; show _ ≤ 2 ^ 24; exact om234 hn
      case own =>
        intro p hp
        simp only [List.map_cons, List.nodup_cons, List.mem_cons, not_or] at hnd
        refine notnot fun hGoal => ?_
        obtain ⟨⟨n1, n2, n3, n4⟩, n5, ⟨n6, n7⟩, n8, n9⟩ := hnd
        refine hGoal ?_
        clear hGoal
        rcases List.mem_cons.mp hp with rfl | hp
        · exact ⟨List.mem_cons_self, n2, n3⟩
        · refine ⟨by simp [hp], ?_, ?_⟩
          · rintro rfl; exact n7 (List.mem_map_of_mem (f := (·.1)) hp)
          · rintro rfl; exact n8 (List.mem_map_of_mem (f := (·.1)) hp)
      case nd =>
        simp only [List.map_cons, List.nodup_cons, List.mem_cons, not_or] at hnd ⊢
        exact ⟨hnd.1.2.2.2, hnd.2.2.2.2⟩
      case p0 => exact List.mem_cons_self
      intro g' u s₁ hg' S
      refine b_adds S ?_ fun t s₁ S => ?_
      · have : (pre ++ " ").length + (Txt.join ", " ((firstsOf n).map fun x : Nat => (Str.ofString (toString (x : Int))))).length = (fwS n).length := by
          rw [← hpre]; exact (Str.length_append _ _).symm
        rw [this]
        rcases hn with rfl | rfl <;> decide
      rw [hpre]
      kspl_open go
      exact h _ _ _ hg' S.drop0
    refine ite_d (fun hgt => ?_) fun hle => ?_
    · have hn2 : n = 2 := by exact om233 hn hgt
      subst hn2
      kspl_open go
      refine b_adds S (by decide) fun t s₁ S => ?_
      kspl_open sv
      kspl_open one
      kspl_open bk
      exact tail _ _ _ S (by decide +kernel) (by decide)
    · have hn1 : n = 1 := by exact om232 hn hle
      subst hn1
      kspl_open one
      kspl_open bk
      exact hNn _ _ (tail _ _ _ S (by decide +kernel) (by decide))
end

section
abbrev giFd : Fd := fdOf (topS 10)
abbrev giN : List Str := ["grouping", "last_interval", "interval"]
abbrev giG : List Str := ["CHAR_MAX"]
def sq (a b j : Nat) : Nat := if j = 0 then a else if b = 0 then a else b
def giEnds (b k : Nat) : Prop := (k = 1 ∧ b = 127) ∨ (k = 2 ∧ b ≠ 0 ∧ b ≠ 127)
def QuietP (Lg ag : Addr) (s₀ s : Shared) : Prop := s.gens = s₀.gens ∧ s.os = s₀.os ∧ ∀ x o, (x < Lg ∨ x = ag) → s₀.heap.get? x = some o → s.heap.get? x = some o
def KPx (Lg ag : Addr) (s₀ : Shared) : KP := fun x o => (x < Lg ∨ x = ag) ∧ s₀.heap.get? x = some o
abbrev gcx (Lg ag : Addr) (s₀ : Shared) : Cx := ⟨{}, KPx Lg ag s₀, [], s₀.os⟩
def giY (K : KP) (a b : Nat) (Lg ag : Addr) : Protocol := fun m s₀ v s kap => (∃ t, v = .int (sq a b (7 - m) : Nat) t) ∧ ¬ giEnds b (7 - m) ∧ QuietP Lg ag s₀ s ∧
  ∃ Ig oL oI, ag < Ig ∧ s.heap.get? Lg = some oL ∧ s.heap.get? Ig = some oI ∧ (0 < m → ∀ s'' : Shared, (∀ x o, K x o → s''.heap.get? x = some o) → s''.heap.get? Lg = some oL → s''.heap.get? Ig = some oI → kap (.send .none) s'')
def giR (b : Nat) (Lg ag : Addr) : GenEnd := fun n s₀ r s₁ => r = .ok (.ret .none) ∧ giEnds b (8 - n) ∧ QuietP Lg ag s₀ s₁

section
variable {prog : Program} {w : World} {A : Around} {K : KP} {a b : Nat} {Lg ag : Addr} {env : Env} {vR : Value} {s₀ s : Shared} {own : Own} {fs : List Frame} {n : Nat}
theorem quiet_of {g : Gs} (S : St (gcx Lg ag s₀) g (KPx Lg ag s₀) own s) (hg : g = s₀.gens) : QuietP Lg ag s₀ s :=
  ⟨S.gens.trans hg, S.os, fun x o h e => S.kept x o ⟨h, e⟩⟩
theorem gi_start {vals : List (Option Value)} {oL oI : Obj} {Ig : Addr} (hlt : Lg < ag) (hI : ag < Ig) (hL : s.heap.get? Lg = some oL) (hP : FrO giN vals oL) (eI : s.heap.get? Ig = some oI) :
    St (gcx Lg ag s) s.gens (KPx Lg ag s) [(Lg, FrO giN vals), (Ig, fun o => o = oI)] s := by
  refine ⟨fun _ _ h => h, fun _ _ h => .inl h, fun x o h => h.2, fun x o e => by simp [Heap.get?] at e, Nat.zero_le _, fun p hp => ?_, fun p _ => .inr (Nat.zero_le _), fun x o h p hp => ?_, ?_, rfl, rfl⟩
  · simp only [List.mem_cons, List.not_mem_nil, or_false] at hp
    rcases hp with rfl | rfl
    · exact ⟨oL, hL, hP⟩
    · exact ⟨oI, eI, rfl⟩
  · simp only [List.mem_cons, List.not_mem_nil, or_false] at hp
    have hx : x < Lg ∨ x = ag := h.1
    rcases hp with rfl | rfl
    · exact hx.elim Nat.ne_of_lt fun e => by rw [e]; exact Nat.ne_of_gt hlt
    · exact hx.elim (fun e => Nat.ne_of_lt (Nat.lt_trans e (Nat.lt_trans hlt hI))) fun e => by rw [e]; exact Nat.ne_of_lt hI
  · simp only [List.map_cons, List.map_nil, List.nodup_cons, List.mem_cons, List.not_mem_nil, or_false, not_false_eq_true, List.nodup_nil, and_true]
    exact Nat.ne_of_lt (Nat.lt_trans hlt hI)
theorem le_kpx (hk : ∀ x o, K x o → x < Lg) (h : ∀ x o, K x o → s.heap.get? x = some o) : Le K (KPx Lg ag s) := fun x o hx => ⟨.inl (hk x o hx), h x o hx⟩

/-- while True: yield last_interval -/
theorem gi_while {py pe p1 : Pos} {pt : Pos} {kt : Nat} (he : EnvF env Lg giN giG) (hco : env.scope.isCoroutine = false) (hlt : Lg < ag) (hk : ∀ x o, K x o → x < Lg) (hb : b = 0) (hfs : splitAtGen fs = none) (hfg : fs.any Frame.guarded = false) :
    ∀ n, n ≤ 6 → ∀ (s₀ s : Shared) (ta : Tok) (iv : Option Value) (Ig : Addr) (oI : Obj), ag < Ig → St (gcx Lg ag s₀) s₀.gens (KPx Lg ag s₀) [(Lg, FrO giN [some vR, some (.int (a : Nat) ta), iv]), (Ig, fun o => o = oI)] s →
      Seg (model prog w) A (giR b Lg ag) (giY K a b Lg ag) (n + 1) s₀ (.whileLoop (.Constant (.bool true) kt pt) [.Expr (.Yield (some (.Name "last_interval" p1)) py) pe] [] env) ((model prog w).den (.whileLoop (.Constant (.bool true) kt pt) [.Expr (.Yield (some (.Name "last_interval" p1)) py) pe] [] env)) fs s := by
  intro n
  induction n with
  | zero =>
    intro _ s₀ s ta iv Ig oI hI S
    refine seg_whileLoop (PyProof.Rows.isTrue_plain (ev_bool (wpAny_truthy_bool ?_)))
    rw [if_pos rfl]
    refine seg_execs_cons (seg_Expr_Yield hfs rfl hfg ?_ hco (by unfold interactive; rw [he.kind]; rfl))
    refine' ev_loc S he ?u ?_
    case u => kspl_open ix
    intro kap hkap
    refine notnot fun hGoal => ?_
    obtain ⟨oL, eL, pL⟩ := S.owned (Lg, FrO giN [some vR, some (.int (a : Nat) ta), iv]) (by simp)
    refine hGoal ?_
    clear hGoal
    refine notnot fun hGoal => ?_
    obtain ⟨oI', eI, pI⟩ := S.owned (Ig, fun o => o = oI) (by simp)
    refine hGoal ?_
    clear hGoal
    exact ⟨⟨ta, by unfold sq; simp [hb]⟩, (fun h => by rcases h with ⟨_, h⟩ | ⟨_, h, _⟩ <;> omega), quiet_of S rfl, Ig, oL, oI', hI, eL, eI, fun h => absurd h (Nat.lt_irrefl _)⟩
  | succ n ih =>
    intro hn s₀ s ta iv Ig oI hI S
    refine seg_whileLoop (PyProof.Rows.isTrue_plain (ev_bool (wpAny_truthy_bool ?_)))
    rw [if_pos rfl]
    refine seg_execs_cons (seg_Expr_Yield hfs rfl hfg ?_ hco (by unfold interactive; rw [he.kind]; rfl))
    refine' ev_loc S he ?u2 ?_
    case u2 => kspl_open ix
    intro kap hkap
    refine notnot fun hGoal => ?_
    obtain ⟨oL, eL, pL⟩ := S.owned (Lg, FrO giN [some vR, some (.int (a : Nat) ta), iv]) (by simp)
    refine hGoal ?_
    clear hGoal
    refine notnot fun hGoal => ?_
    obtain ⟨oI', eI, pI⟩ := S.owned (Ig, fun o => o = oI) (by simp)
    refine hGoal ?_
    clear hGoal
    refine ⟨⟨ta, by unfold sq; simp [hb]⟩, (fun h => by rcases h with ⟨_, h⟩ | ⟨_, h, _⟩ <;> omega), quiet_of S rfl, Ig, oL, oI', hI, eL, eI, fun _ s'' hK hL hI' => hkap .none s'' ?_⟩
    show Seg _ _ _ _ _ _ _ ((execs [] env).wrap _ _ _ _) _ _
    refine seg_execs_nil (seg_again rfl ?_)
    exact ih (by exact om249 hn) s'' s'' ta iv Ig oI' hI (gi_start hlt hI hL pL hI')
end

section
variable {prog : Program} {w : World} {A : Around} {K : KP} {a b : Nat} {Lg ag : Addr} {env : Env} {vR : Value} {s₀ s : Shared} {own : Own} {n : Nat}
abbrev giFor : Stmt := nthS giFd.B 1
def forBody : Stmt → List Stmt
  | .For _ _ b _ _ => b
  | _ => []
def forTarget : Stmt → Expr
  | .For t _ _ _ _ => t
  | _ => .Constant .none 0 default
def forIter : Stmt → Expr
  | .For _ i _ _ _ => i
  | _ => .Constant .none 0 default
abbrev giT : Expr := forTarget giFor
abbrev giB : List Stmt := forBody giFor
def giK0 : Flow → Sem Fin := fun f => .pure (.done (.ret (match f with | .ret v => v | _ => .none)))
def giH (env : Env) : Value → Sem Fin := fun e => (leaving env e).wrap (fun _ => .raise e) .raise id id
def giK1 (env : Env) : Flow → Sem Fin := fun f => match f with
  | .next => (execs [] env).wrap giK0 (giH env) id id
  | f => giK0 f
/-- the frame of the function's body under the loop -/
def giFrame (env : Env) (p : Pos) : Frame := .ret (fun r => ((match r with | .ok f => (.pure f : Sem Flow) | .error e => .raise e).onRaise fun (x : Value) => do
        if (← field x 1) == Value.none then unsupported "frame.own-activation:exception-without-traceback"
        setFlight x env.frame).wrap (giK1 env) (giH env) id id) none (id false) (id []) (.func giFd.B env) p []
theorem gi_split (p : Pos) : splitAtGen [giFrame env p] = none := rfl
theorem gi_guard (p : Pos) : [giFrame env p].any Frame.guarded = false := rfl
theorem gi_handled (p : Pos) (c : Code) (hA : A.handled = none) : (A.over c [giFrame env p]).handled = none := hA

/-- an owned list iterator -/
def LiO (l : Addr) (i : Nat) : Pr := fun o => o.cls = .type "list_iterator" ∧ o.data = .fields #[.ref l, .int i 0]

theorem li_next {c : Cx} {g : Gs} {KK : KP} {rest : Own} {q : Addr × Pr} {l Ig : Addr} {i nn : Nat} {ol : Obj} {vs : Array Value} {A : Around} {E : Value → Shared → Prop} {Q : Option Value → Shared → Prop} (hA : A.handled = none) (S : St c g KK (q :: (Ig, LiO l i) :: rest) s) (hz : c.h0.objs.size ≤ Ig) (hq : c.h0.objs.size ≤ q.1)
    (kl : KK l ol) (hc : ol.cls = .type "list") (hd : ol.data = .seq vs nn) (hi : i ≤ vs.size)
    (h1 : ∀ v s', vs[i]? = some v → St c g KK (q :: (Ig, LiO l (i + 1)) :: rest) s' → Q (some v) s') (h2 : ∀ s', i = vs.size → St c g KK (q :: rest) s' → Q none s') :
    wpAny (model prog w) A (pyNext (.ref Ig)) Q E s := by
  refine notnot fun hGoal => ?_
  obtain ⟨oI, eI, pI⟩ := S.owned (Ig, LiO l i) (by simp)
  refine hGoal ?_
  clear hGoal
  have hne : l ≠ Ig := S.sep l ol kl (Ig, LiO l i) (by simp)
  have W := Walks.list (prog := prog) (w := w) (A := A) hA Ig l hne vs
  have hst : s.heap.IsListIter Ig l i ∧ s.heap.IsList l vs := ⟨⟨oI, eI, pI⟩, ⟨ol, S.kept _ _ kl, hc, nn, hd⟩⟩
  rcases Nat.lt_or_ge i vs.size with hlt | hge
  · refine W.item i s _ _ hlt hst fun v h' tk hP hst' hk => ?_
    obtain ⟨⟨o', e', p'⟩, _⟩ := hst'
    exact h1 v _ hP ((S.walked tk hz hk e').weak (.there .here) fun x hx => by rw [hx]; exact p')
  · have : i = vs.size := by exact om248 hi hge
    subst this
    exact W.done s _ _ hst fun h' tk hk => h2 _ rfl (S.walkEnd tk hz hq hk)
theorem St.pin {c : Cx} {g : Gs} {KK : KP} {own own' : Own} {I : Addr} {P : Pr} {o : Obj} (S : St c g KK own s) (hu : OwnUp own I P (fun x => x = o) own') (e : s.heap.get? I = some o) : St c g KK own' s := by
  have := S.turn (h' := s.heap) s.toks hu ⟨rfl, fun _ _ => rfl⟩ ⟨o, e, rfl⟩
  exact this
theorem two_items {K : KP} {vs : List Value} {x y : Int} (h : RdAll K vs [.int x, .int y]) : ∃ t u, vs = [.int x t, .int y u] := by
  cases h with
  | cons h1 h2 => cases h2 with
    | cons h3 h4 =>
      cases h4
      obtain ⟨t, rfl⟩ := h1.intE
      obtain ⟨u, rfl⟩ := h3.intE
      exact ⟨t, u, rfl⟩

-- the loop once both are given
theorem gi_for2 {p : Pos} {l Ig : Addr} {vals : List (Option Value)} (hA : A.handled = none) (hR : Rd K (.ref l) (.list [.int a, .int b])) (hb : b ≠ 0 ∧ b ≠ 127)
    (hle : Le K (KPx Lg ag s₀)) (S : St (gcx Lg ag s₀) s₀.gens (KPx Lg ag s₀) [(Lg, FrO giN vals), (Ig, LiO l 2)] s) :
    Seg (model prog w) A (giR b Lg ag) (giY K a b Lg ag) 6 s₀ (.forLoop giT (.ref Ig) giB [] env) ((model prog w).den (.forLoop giT (.ref Ig) giB [] env)) [giFrame env p] s := by
  cases hR with
  | @list _ ol vs nn _ kl hc hd hr =>
    refine notnot fun hGoal => ?_
    obtain ⟨t, u, hvs⟩ := two_items hr
    refine hGoal ?_
    clear hGoal
    have hsz : vs.size = 2 := by rw [← Array.length_toList, hvs]; rfl
    refine sg_forLoop (li_next (A := A.over (.forLoop giT (.ref Ig) giB [] env) [giFrame env p]) (gi_handled p _ hA) S (Nat.zero_le _) (Nat.zero_le _) (hle _ _ kl) hc hd (by exact om247 hsz) (fun v s' hv => ?_) fun s₁ _ S => ?_)
    · rw [Array.getElem?_eq_none (by exact om246 hsz)] at hv; cases hv
    · refine sg_block0 ?_
      refine seg_leaf (.ok .next) ?_
      exact seg_end (.ok (.ret .none)) ⟨rfl, .inr ⟨rfl, hb.1, hb.2⟩, quiet_of S rfl⟩

-- the second turn
set_option maxHeartbeats 1000000 in
theorem gi_for1 {p : Pos} {l Ig : Addr} {iv : Option Value} {ta : Tok} (hA : A.handled = none) (he : EnvF env Lg giN giG) (hco : env.scope.isCoroutine = false) (hlt : Lg < ag) (hI : ag < Ig) (hk : ∀ x o, K x o → x < Lg) (hR : Rd K (.ref l) (.list [.int a, .int b])) (hG : GB K gl bl)
    (hle : Le K (KPx Lg ag s₀)) (S : St (gcx Lg ag s₀) s₀.gens (KPx Lg ag s₀) [(Lg, FrO giN [some (.ref l), some (.int (a : Nat) ta), iv]), (Ig, LiO l 1)] s) :
    Seg (model prog w) A (giR b Lg ag) (giY K a b Lg ag) 7 s₀ (.forLoop giT (.ref Ig) giB [] env) ((model prog w).den (.forLoop giT (.ref Ig) giB [] env)) [giFrame env p] s := by
  have hR0 := hR
  cases hR with
  | @list _ ol vs nn _ kl hc hd hr =>
    refine notnot fun hGoal => ?_
    obtain ⟨t9, u9, hvs⟩ := two_items hr
    refine hGoal ?_
    clear hGoal
    have hsz : vs.size = 2 := by rw [← Array.length_toList, hvs]; rfl
    refine sg_forLoop (li_next (A := A.over (.forLoop giT (.ref Ig) giB [] env) [giFrame env p]) (gi_handled p _ hA) S (Nat.zero_le _) (Nat.zero_le _) (hle _ _ kl) hc hd (by exact om245 hsz) (fun v s₁ hv S => ?_) fun s₁ h => ?_)
    · have hvb : v = .int b u9 := by
        rw [← Array.getElem?_toList, hvs] at hv
        exact (Option.some.inj hv).symm
      subst hvb
      have hG := hG.mono hle
      refine wpAny_of_eq (a := ()) rfl ?_
      refine wpAny_assign_Name ?_
      kspl_open sv
      -- if interval == CHAR_MAX
      refine seg_execs_cons (sg_If ?_)
      kspl_open go
      by_cases hb127 : b = 127
      · have e1 : ((b : Int) == 127) = true := beq_iff_eq.mpr (by exact om244 hb127)
        rw [e1, if_pos rfl]
        refine seg_execs_cons (seg_wrap (wpAny_Return_none ?_))
        refine seg_leaf (.ok (.ret .none)) ?_
        exact seg_end (.ok (.ret .none)) ⟨rfl, .inl ⟨rfl, hb127⟩, quiet_of S rfl⟩
      have e1 : ((b : Int) == 127) = false := beq_eq_false_iff_ne.mpr (by exact om243 hb127)
      rw [e1, if_neg Bool.false_ne_true]
      refine seg_execs_nil ?_
      -- if interval == 0
      refine seg_execs_cons (sg_If ?_)
      kspl_open go
      by_cases hb0 : b = 0
      · have e2 : ((b : Int) == 0) = true := beq_iff_eq.mpr (by exact om242 hb0)
        rw [e2, if_pos rfl]
        refine sg_step ?_
        refine wpAny_If ?_
        kspl_open go
        refine PyProof.Rows.is_int_none ?_
        kspl_open go
        rw [if_neg Bool.false_ne_true]
        kspl_open one
        refine ⟨rfl, ?_⟩
        refine seg_execs_cons (seg_While fun p' => ?_)
        refine notnot fun hGoal => ?_
        obtain ⟨oI, eI, pI⟩ := S.owned (Ig, LiO l (1 + 1)) (by simp)
        refine hGoal ?_
        clear hGoal
        refine gi_while (vR := .ref l) he hco hlt hk hb0 rfl rfl 6 (by exact om241) s₀ _ ta (some (.int (b : Nat) u9)) Ig oI hI ?_
        exact S.pin (.there .here) eI
      · have e2 : ((b : Int) == 0) = false := beq_eq_false_iff_ne.mpr (by exact om240 hb0)
        rw [e2, if_neg Bool.false_ne_true]
        refine seg_execs_nil ?_
        refine seg_execs_cons (seg_Expr_Yield (gi_split p) rfl (gi_guard p) ?_ hco (by unfold interactive; rw [he.kind]; rfl))
        refine' ev_loc S he ?u2 ?_
        case u2 => kspl_open ix
        intro kap hkap
        refine notnot fun hGoal => ?_
        obtain ⟨oL, eL, pL⟩ := S.owned (Lg, FrO giN [some (.ref l), some (.int (a : Nat) ta), some (.int (b : Nat) u9)]) (by simp)
        refine hGoal ?_
        clear hGoal
        refine notnot fun hGoal => ?_
        obtain ⟨oI, eI, pI⟩ := S.owned (Ig, LiO l (1 + 1)) (by simp)
        refine hGoal ?_
        clear hGoal
        refine ⟨⟨u9, by unfold sq; simp [hb0]⟩, (fun h => by rcases h with ⟨_, h⟩ | ⟨h, _, _⟩ <;> omega), quiet_of S rfl, Ig, oL, oI, hI, eL, eI, fun _ s'' hK hL hI' => hkap .none s'' ?_⟩
        have S := (gi_start hlt hI hL pL hI').weak (.there .here) (P' := LiO l 2) fun x hx => by rw [hx]; exact pI
        show Seg _ _ _ _ _ _ _ ((execs [_] env).wrap _ _ _ _) _ _
        refine sg_step ?_
        kspl_open go
        refine ⟨rfl, ?_⟩
        refine seg_execs_nil (seg_again rfl ?_)
        exact gi_for2 hA hR0 ⟨hb0, hb127⟩ (le_kpx hk hK) S
    · omega

-- the first turn
set_option maxHeartbeats 1000000 in
theorem gi_for0 {p : Pos} {l Ig : Addr} {iv : Option Value} (hA : A.handled = none) (he : EnvF env Lg giN giG) (hco : env.scope.isCoroutine = false) (hlt : Lg < ag) (hI : ag < Ig) (hk : ∀ x o, K x o → x < Lg) (hR : Rd K (.ref l) (.list [.int a, .int b])) (hG : GB K gl bl) (ha : a ≠ 0 ∧ a ≠ 127)
    (hle : Le K (KPx Lg ag s₀)) (S : St (gcx Lg ag s₀) s₀.gens (KPx Lg ag s₀) [(Lg, FrO giN [some (.ref l), some .none, iv]), (Ig, LiO l 0)] s) :
    Seg (model prog w) A (giR b Lg ag) (giY K a b Lg ag) 8 s₀ (.forLoop giT (.ref Ig) giB [] env) ((model prog w).den (.forLoop giT (.ref Ig) giB [] env)) [giFrame env p] s := by
  have hR0 := hR
  have hG0 := hG
  cases hR with
  | @list _ ol vs nn _ kl hc hd hr =>
    refine notnot fun hGoal => ?_
    obtain ⟨t9, u9, hvs⟩ := two_items hr
    refine hGoal ?_
    clear hGoal
    have hsz : vs.size = 2 := by rw [← Array.length_toList, hvs]; rfl
    refine sg_forLoop (li_next (A := A.over (.forLoop giT (.ref Ig) giB [] env) [giFrame env p]) (gi_handled p _ hA) S (Nat.zero_le _) (Nat.zero_le _) (hle _ _ kl) hc hd (by exact om239) (fun v s₁ hv S => ?_) fun s₁ h => ?_)
    · have hvb : v = .int a t9 := by
        rw [← Array.getElem?_toList, hvs] at hv
        exact (Option.some.inj hv).symm
      subst hvb
      have hG := hG.mono hle
      refine wpAny_of_eq (a := ()) rfl ?_
      refine wpAny_assign_Name ?_
      kspl_open sv
      refine seg_execs_cons (sg_If ?_)
      kspl_open go
      have e1 : ((a : Int) == 127) = false := beq_eq_false_iff_ne.mpr (by exact om238 ha)
      rw [e1, if_neg Bool.false_ne_true]
      refine seg_execs_nil ?_
      refine seg_execs_cons (sg_If ?_)
      kspl_open go
      have e2 : ((a : Int) == 0) = false := beq_eq_false_iff_ne.mpr (by exact om237 ha)
      rw [e2, if_neg Bool.false_ne_true]
      refine seg_execs_nil ?_
      refine seg_execs_cons (seg_Expr_Yield (gi_split p) rfl (gi_guard p) ?_ hco (by unfold interactive; rw [he.kind]; rfl))
      refine' ev_loc S he ?u2 ?_
      case u2 => kspl_open ix
      intro kap hkap
      refine notnot fun hGoal => ?_
      obtain ⟨oL, eL, pL⟩ := S.owned (Lg, FrO giN [some (.ref l), some .none, some (.int (a : Nat) t9)]) (by simp)
      refine hGoal ?_
      clear hGoal
      refine notnot fun hGoal => ?_
      obtain ⟨oI, eI, pI⟩ := S.owned (Ig, LiO l (0 + 1)) (by simp)
      refine hGoal ?_
      clear hGoal
      refine ⟨⟨t9, by unfold sq; simp⟩, (fun h => by rcases h with ⟨h, _⟩ | ⟨h, _, _⟩ <;> omega), quiet_of S rfl, Ig, oL, oI, hI, eL, eI, fun _ s'' hK hL hI' => hkap .none s'' ?_⟩
      have S := (gi_start hlt hI hL pL hI').weak (.there .here) (P' := LiO l 1) fun x hx => by rw [hx]; exact pI
      show Seg _ _ _ _ _ _ _ ((execs [_] env).wrap _ _ _ _) _ _
      refine sg_step ?_
      kspl_open go
      refine ⟨rfl, ?_⟩
      refine seg_execs_nil (seg_again rfl ?_)
      exact gi_for1 hA he hco hlt hI hk hR0 hG0 (le_kpx hk hK) S
    · omega

-- the whole
theorem gi_fresh {l : Addr} {oa : Obj} (hA : A.handled = none) (he : EnvF env Lg giN giG) (hco : env.scope.isCoroutine = false) (hlt : Lg < ag) (hk : ∀ x o, K x o → x < Lg) (hR : Rd K (.ref l) (.list [.int a, .int b])) (hG : GB K gl bl) (ha : a ≠ 0 ∧ a ≠ 127)
    (hK : ∀ x o, K x o → s.heap.get? x = some o) (hoa : s.heap.get? ag = some oa) (hf : ∃ o, s.heap.get? Lg = some o ∧ FrO giN [some (.ref l), none, none] o) :
    Seg (model prog w) A (giR b Lg ag) (giY K a b Lg ag) 8 s (.func giFd.B env) ((model prog w).den (.func giFd.B env)) [] s := by
  have hle : Le K (KPx Lg ag s) := le_kpx hk hK
  have S : St (gcx Lg ag s) s.gens (KPx Lg ag s) [(Lg, FrO giN [some (.ref l), none, none])] s := by
    refine ⟨fun _ _ h => h, fun _ _ h => .inl h, fun x o h => h.2, fun x o e => by simp [Heap.get?] at e, Nat.zero_le _, fun p hp => ?_, fun p _ => .inr (Nat.zero_le _), fun x o h p hp => ?_, by simp, rfl, rfl⟩
    · rw [List.mem_singleton.mp hp]; exact hf
    · rw [List.mem_singleton.mp hp]
      have hx : x < Lg ∨ x = ag := h.1
      exact hx.elim Nat.ne_of_lt fun e => by rw [e]; exact Nat.ne_of_gt hlt
  have S0 := S
  refine seg_func ?_
  refine sg_step ?_
  kspl_open go
  refine ⟨rfl, ?_⟩
  refine seg_execs_cons (sg_For ?_)
  kspl_open go
  have hR' := hR.mono hle
  cases hR' with
  | @list _ ol vs nn _ kl hc hd hr =>
    refine wpAny_pyIter_list ⟨ol, S.kept _ _ kl, hc, nn, hd⟩ ?_
    intro p
    have hag : ag < s₁.heap.objs.size := S.Klt (show KPx Lg ag s ag oa from ⟨.inr rfl, hoa⟩)
    have S1 := S.alloc (P := LiO l 0) { cls := .type "list_iterator", data := .fields #[.ref l, .int 0 0] } ⟨rfl, rfl⟩ rfl s₁.toks
    exact gi_for0 hA he hco hlt hag hk hR hG ha hle S1
end
end

section
section
set_option maxRecDepth 100000
end
theorem gi_scope : ScopeOkG giFd.S giN giG := by
  refine ⟨by rfl, by decide, by decide +kernel, by decide +kernel, by decide +kernel, by exact ⟨rfl, rfl⟩⟩
abbrev szFd : Fd := fdOf (topS 19)
abbrev szN : List Str := ["ruler", "many", "sizes", "size"]
theorem sz_scope : ScopeOk szFd.S szN ["_grouping_intervals", "sum"] := by
  refine ⟨by rfl, by decide, by decide +kernel, by decide +kernel, by decide +kernel, by exact ⟨rfl, rfl⟩⟩
def szL (a b k : Nat) : List Nat := (List.range k).map (sq a b)
theorem szL_sum : ∀ (a b k : Nat), a ≠ 0 → k ≤ (szL a b k).sum := by
  intro a b k ha
  induction k with
  | zero => exact Nat.zero_le _
  | succ k ih =>
    unfold szL at ih ⊢
    rw [List.range_succ, List.map_append, List.sum_append]
    have : 1 ≤ sq a b k := by
      unfold sq
      split
      · exact om263 ha
      · split <;> omega
    simp only [List.map_cons, List.map_nil, List.sum_cons, List.sum_nil]
    exact om262 ih this
def szOk (n a b k : Nat) : Bool := !(decide (n ≤ a + 3) && (List.range k).all (fun j => (j == 0 || decide ((szL a b j).sum < n)) && !((j == 1 && b == 127) || (j == 2 && b != 0 && b != 127))) && ((decide (n ≤ (szL a b k).sum) && k != 0) || (((k == 1 && b == 127) || (k == 2 && b != 0 && b != 127)) && decide ((szL a b k).sum < n)))) || szL a b k == P.plainL a b n
theorem sz_all : [5, 6].all (fun n => [2, 3, 4, 5, 6].all fun a => [0, 127, 1, 2, 3].all fun b => (List.range 8).all fun k => szOk n a b k) = true := by decide +kernel
theorem sz_plain {n a b k : Nat} (hn : n = 5 ∨ n = 6) (ha : a ∈ [2, 3, 4, 5, 6]) (hna : n ≤ a + 3) (hb : b ∈ [0, 127, 1, 2, 3]) (hk : k < 8) (hj : ∀ j, j < k → (j = 0 ∨ (szL a b j).sum < n) ∧ ¬ giEnds b j) (he : (n ≤ (szL a b k).sum ∧ k ≠ 0) ∨ (giEnds b k ∧ (szL a b k).sum < n)) : szL a b k = P.plainL a b n := by
  have h1 := List.all_eq_true.mp sz_all n (by rcases hn with rfl | rfl <;> simp)
  have h2 := List.all_eq_true.mp (List.all_eq_true.mp (List.all_eq_true.mp h1 a ha) b hb) k (List.mem_range.mpr hk)
  unfold szOk at h2
  have e1 : decide (n ≤ a + 3) = true := decide_eq_true hna
  have e2 : (List.range k).all (fun j => (j == 0 || decide ((szL a b j).sum < n)) && !((j == 1 && b == 127) || (j == 2 && b != 0 && b != 127))) = true := by
    rw [List.all_eq_true]
    intro j hjk
    obtain ⟨h1, h2⟩ := hj j (List.mem_range.mp hjk)
    have h3 : ((j == 1 && b == 127) || (j == 2 && b != 0 && b != 127)) = false := by
      rw [Bool.eq_false_iff]
      intro h
      apply h2
      simpa [giEnds, and_assoc] using h
    rw [h3]
    rcases h1 with h | h
    · simp [h]
    · simp [h]
  have e3 : ((decide (n ≤ (szL a b k).sum) && k != 0) || (((k == 1 && b == 127) || (k == 2 && b != 0 && b != 127)) && decide ((szL a b k).sum < n))) = true := by
    rcases he with ⟨h, h'⟩ | ⟨h, h3⟩
    · simp [h, h']
    · have h4 : ((k == 1 && b == 127) || (k == 2 && b != 0 && b != 127)) = true := by simpa [giEnds, and_assoc] using h
      rw [h4]
      simp [h3]
  rw [e1, e2, e3] at h2
  simpa using h2

/-- the generator stands ready for its i-th item -/
def GRdy (prog : Program) (w : World) (A : Around) (K : KP) (a b : Nat) (Lg ag : Addr) (gi i : Nat) (g : Gs) (priv : List (Addr × Obj)) : Prop :=
  ∃ gs, g[gi]? = some gs ∧ ∀ s'' : Shared, (∀ x o, K x o → s''.heap.get? x = some o) → (∀ p ∈ priv, s''.heap.get? p.1 = some p.2) → gs.Goes (model prog w) A.in1 (giR b Lg ag) (giY K a b Lg ag) (8 - i) (.send .none) s''
def pins (priv : List (Addr × Obj)) : Own := priv.map fun p => (p.1, fun o => o = p.2)
theorem afterGen {c : Cx} {g : Gs} {K : KP} {own own1 : Own} {s s₁ : Shared} {Lg ag gi : Nat} {x y : GenState} {pv : List (Addr × Obj)} (S : St c g K own s) (q : QuietP Lg ag (s.setGen gi x) s₁)
    (hlow : ∀ p ∈ own1, p ∈ own ∧ (p.1 < Lg ∨ p.1 = ag)) (hp : ∀ p ∈ pv, s₁.heap.get? p.1 = some p.2 ∧ Lg ≤ p.1) (hK : ∀ b o, K b o → b < Lg) (hcl : c.h0.objs.size ≤ Lg) {p0 : Addr × Pr} (hp0 : p0 ∈ own1) (hz : c.h0.objs.size ≤ p0.1) (hnd : ((own1 ++ pins pv).map (·.1)).Nodup) :
    St c (s₁.setGen gi y).gens K (own1 ++ pins pv) (s₁.setGen gi y) := by
  refine notnot fun hGoal => ?_
  obtain ⟨q1, q2, q3⟩ := q
  refine hGoal ?_
  clear hGoal
  have keep : ∀ b o, (b < Lg ∨ b = ag) → s.heap.get? b = some o → s₁.heap.get? b = some o := q3
  refine ⟨S.le, S.new, fun b o h => keep b o (.inl (hK b o h)) (S.kept b o h), fun b o h hb => keep b o (.inl (Nat.lt_of_lt_of_le (Heap.lt_size h) hcl)) (S.base b o h hb), ?_, fun p hpm => ?_, fun p hpm => ?_, fun b o h p hpm => ?_, hnd, rfl, q2.trans S.os⟩
  · refine notnot fun hGoal => ?_
    obtain ⟨o, e, _⟩ := S.owned p0 (hlow p0 hp0).1
    refine hGoal ?_
    clear hGoal
    exact Nat.le_trans hz (Nat.le_of_lt (Heap.lt_size (keep _ _ (hlow p0 hp0).2 e)))
  · rcases List.mem_append.mp hpm with h | h
    · refine notnot fun hGoal => ?_
      obtain ⟨o, e, hP⟩ := S.owned p (hlow p h).1
      refine hGoal ?_
      clear hGoal
      exact ⟨o, keep _ _ (hlow p h).2 e, hP⟩
    · refine notnot fun hGoal => ?_
      obtain ⟨r, hr, rfl⟩ := List.mem_map.mp h
      refine hGoal ?_
      clear hGoal
      exact ⟨r.2, (hp r hr).1, rfl⟩
  · rcases List.mem_append.mp hpm with h | h
    · exact S.ownNew p (hlow p h).1
    · refine notnot fun hGoal => ?_
      obtain ⟨r, hr, rfl⟩ := List.mem_map.mp h
      refine hGoal ?_
      clear hGoal
      exact .inr (Nat.le_trans hcl (hp r hr).2)
  · rcases List.mem_append.mp hpm with hm | hm
    · exact S.sep b o h p (hlow p hm).1
    · refine notnot fun hGoal => ?_
      obtain ⟨r, hr, rfl⟩ := List.mem_map.mp hm
      refine hGoal ?_
      clear hGoal
      exact Nat.ne_of_lt (Nat.lt_of_lt_of_le (hK b o h) (hp r hr).2)
theorem rdNats {K : KP} {l : List Nat} {vs : List Value} (h : RdAll K vs (l.map dI)) : IntsAre vs (l.map fun x : Nat => (x : Int)) := by
  refine RdAll.ints (K := K) ?_
  rw [List.map_map]; exact h
theorem nat_sum (l : List Nat) : (l.map fun x : Nat => (x : Int)).sum = (l.sum : Nat) := by
  induction l with
  | nil => rfl
  | cons x l ih => rw [List.map_cons, List.sum_cons, List.sum_cons, ih, Int.natCast_add]
theorem AllBare.set {g : Gs} {i : Nat} {x : GenState} (h : AllBare g) (hx : x.bare = true) : AllBare (g.setIfInBounds i x) := fun y hy => by
  rcases Array.mem_or_eq_of_mem_setIfInBounds hy with h' | h'
  · exact h y h'
  · rw [h']; exact hx

inductive SInv (prog : Program) (w : World) (A : Around) (c : Cx) (K : KP) (a b n : Nat) (gi : Nat) (vR : Value) (tn : Tok) (L aS ag Lg : Addr) (oa : Obj) (kk : Nat) (s' : Shared) : Prop
  | mk (i : Nat) (g : Gs) (vs : List Value) (sz : Option Value) (priv : List (Addr × Obj)) (hk : kk = 8 - i) (hi : i ≤ 6) (hgb : AllBare g) (S : St c g K ((L, FrO szN [some vR, some (.int n tn), some (.ref aS), sz]) :: (aS, LpO vs) :: (ag, fun o => o = oa) :: pins priv) s')
    (hvs : RdAll K vs ((szL a b i).map dI)) (hsum : i = 0 ∨ (szL a b i).sum < n) (hall : ∀ j, j < i → (j = 0 ∨ (szL a b j).sum < n) ∧ ¬ giEnds b j) (gs : GenState) (hgs : g[gi]? = some gs)
    (hgo : ∀ s'' : Shared, (∀ x o, K x o → s''.heap.get? x = some o) → (∀ p ∈ (ag, oa) :: priv, s''.heap.get? p.1 = some p.2) → gs.Goes (model prog w) A.in1 (giR b Lg ag) (giY K a b Lg ag) (8 - i) (.send .none) s'')
set_option maxRecDepth 100000 in
set_option maxHeartbeats 4000000 in
theorem sizes_spec {prog : Program} {w : World} {A : Around} {E : Value → Shared → Prop} {s : Shared} {K : KP} {k a b n : Nat} {vR : Value} {tn : Tok} {Pp : Params} {Q : Value → Shared → Prop}
    (hX : InK (KFh Pp) K) (hG : GB K gl bl) (hK : ∀ b o, K b o → s.heap.get? b = some o) (hA : AOk A (k + 2)) (hR : Rd K vR (.list [dI a, dI b])) (hn : n = 5 ∨ n = 6) (ha : a ∈ [2, 3, 4, 5, 6]) (hna : n ≤ a + 3) (hb : b ∈ [0, 127, 1, 2, 3]) (hgb : AllBare s.gens)
    (h : ∀ v K' g' s', AllBare g' → Ret K s [] g' K' s' → Rd K' v (dInts (P.plainL a b n)) → Q v s') :
    wpAny (model prog w) A (call (.ref 294) [vR, .int n tn]) Q E s := by
  have ha0 : a ≠ 0 ∧ a ≠ 127 := by simp at ha; exact om261 ha
  refine call_fun (vals := [some vR, some (.int n tn), none, none]) (f_sizes hX) hG hK hA sz_scope (ps := ["ruler", "many"]) (ls := ["sizes", "size"]) rfl rfl rfl (fun _ _ _ _ _ => rfl) fun L env s₁ A Nn hL hA he S hNn => ?_
  kspl_open gv
  kspl_open go
  refine nw_list S fun aS s₁ S => ?_
  kspl_open go
  refine callWith_K (hX.in_ S) (k_gi Pp) ?_
  kspl_open go
  kspl_open bk
  refine ⟨hX.in_ S, wpAny_call (gen_call (names := giN) (vals := [some vR, none, none]) S (f_gi hX) hG hA gi_scope (ps := ["grouping"]) (ls := ["last_interval", "interval"]) rfl rfl rfl (fun _ _ _ _ _ => rfl) fun Lg ag envg oa s₁ hLg hlt hKlt hown heg hsc hgo S => ?_)⟩
  -- the generator's number and frame
  have hRS : Rd K vR (.list [dI a, dI b]) := hR
  refine notnot fun hGoal => ?_
  obtain ⟨oL, eL, pL⟩ := S.owned (Lg, FrO giN [some vR, none, none]) (by simp)
  refine hGoal ?_
  clear hGoal
  have hag : ∃ o, s₁.heap.get? ag = some o ∧ o = oa := S.owned (ag, fun o => o = oa) (by simp)
  refine notnot fun hGoal => ?_
  obtain ⟨oa', ea, rfl⟩ := hag
  refine hGoal ?_
  clear hGoal
  have hLlt : L < Lg := hown (L, FrO szN [some vR, some (.int n tn), some (.ref aS), none]) (by simp)
  have haSlt : aS < Lg := hown (aS, LpO []) (by simp)
  have hLz : s.heap.objs.size ≤ Lg := Nat.le_of_lt (Nat.lt_of_le_of_lt hL hLlt)
  obtain ⟨lR, rfl⟩ : ∃ l, vR = .ref l := by cases hR; exact ⟨_, rfl⟩
  have hLaS : L ≠ aS := by
    have := S.nd
    simp only [List.map_cons, List.map_nil, List.nodup_cons, List.mem_cons, List.not_mem_nil, or_false, not_or, not_false_eq_true, List.nodup_nil, and_true] at this
    exact this.2.2
  have gen_is : ∀ {own : Own} {g : Gs} {s' : Shared}, St ⟨s.heap, K, [], s.os⟩ g K own s' → (ag, fun o => o = oa') ∈ own → s'.heap.IsGen ag s.gens.size := by
    intro own g s' S' hm
    refine notnot fun hGoal => ?_
    obtain ⟨o, e, rfl⟩ := S'.owned _ hm
    refine hGoal ?_
    clear hGoal
    refine notnot fun hGoal => ?_
    obtain ⟨h1, nm, qn, h2, h3⟩ := hgo
    refine hGoal ?_
    clear hGoal
    exact ⟨o, nm, qn, e, h1, h2, h3⟩
  refine wpAny_pyIter_gen (gen_is S (by simp)) ?_
  have S0 : St ⟨s.heap, K, [], s.os⟩ (s.gens.push (.fresh (.func giFd.B envg))) K ((L, FrO szN [some (.ref lR), some (.int n tn), some (.ref aS), none]) :: (aS, LpO []) :: (ag, fun o => o = oa') :: pins [(Lg, oL)]) s₁ := by
    have := S.perm (own' := (L, FrO szN [some (.ref lR), some (.int n tn), some (.ref aS), none]) :: (aS, LpO []) :: (ag, fun o => o = oa') :: [(Lg, FrO giN [some (.ref lR), none, none])]) ?_
    · exact this.pin (.there (.there (.there .here))) eL
    · exact List.perm_append_comm (l₁ := [(L, _), (aS, _)]) (l₂ := [(ag, _), (Lg, _)])
  refine codeAny_forLoop_any (SInv prog w A ⟨s.heap, K, [], s.os⟩ K a b n s.gens.size (.ref lR) tn L aS ag Lg oa') ?_ 8
    (.mk 0 _ [] none [(Lg, oL)] rfl (Nat.zero_le _) (hgb.push rfl) S0 .nil (.inl rfl) (fun j hj => absurd hj (Nat.not_lt_zero _)) _ (Array.getElem?_push_size ..) fun s'' hK'' hp'' => ?_)
  · intro kk s' hJ
    refine notnot fun hGoal => ?_
    cases hJ with | mk i g vs sz priv hk hi hgb S hvs hsum hall gs hgs hgo'
    subst hk
    refine hGoal ?_
    clear hGoal
    have hvl : vs.length = i := by rw [hvs.length, List.length_map]; unfold szL; simp
    have hend : ∀ (e : (i ≠ 0 ∧ n ≤ (szL a b i).sum) ∨ (giEnds b i ∧ (i = 0 ∨ (szL a b i).sum < n))), szL a b i = P.plainL a b n := by
      intro e
      refine sz_plain hn ha hna hb (by exact om260 hi) hall ?_
      rcases e with ⟨h1, h2⟩ | ⟨h1, h2⟩
      · exact .inl ⟨h2, h1⟩
      · refine .inr ⟨h1, ?_⟩
        rcases h2 with h2 | h2
        · subst h2
          rcases h1 with ⟨h, _⟩ | ⟨h, _⟩ <;> omega
        · exact h2
    refine next_fn (n := 8 - i) (R := giR b Lg ag) (Y := giY K a b Lg ag) hA.handled (nolim S hG) hA.room (gen_is S (by simp)) (by rw [S.gens]; exact hgs) (fun _ _ _ _ h => h.1) (hgo' _ S.kept fun p hp => ?_) ?_ ?_
    · rcases List.mem_cons.mp hp with rfl | hp
      · refine notnot fun hGoal => ?_
        obtain ⟨o, e, rfl⟩ := S.owned (ag, fun o => o = oa') (by simp)
        refine hGoal ?_
        clear hGoal
        exact e
      · obtain ⟨o, e, rfl⟩ := S.owned (p.1, fun o => o = p.2) (by
          refine List.mem_cons_of_mem _ (List.mem_cons_of_mem _ (List.mem_cons_of_mem _ ?_))
          exact List.mem_map_of_mem (f := fun p : Addr × Obj => (p.1, fun o => o = p.2)) hp)
        exact e
    · intro v s₁ gs' hbare hY
      refine notnot fun hGoal => ?_
      obtain ⟨⟨t, rfl⟩, hne, hq, Ig, oL', oI, hIg, eL', eI, hkap⟩ := hY
      refine hGoal ?_
      clear hGoal
      have e7 : 7 - (8 - i - 1) = i := by exact om259 hi
      rw [e7] at hne ⊢
      have S1 := afterGen (y := gs') (own1 := (L, FrO szN [some (.ref lR), some (.int n tn), some (.ref aS), sz]) :: (aS, LpO vs) :: (ag, fun o => o = oa') :: []) (pv := [(Lg, oL'), (Ig, oI)]) (p0 := (L, FrO szN [some (.ref lR), some (.int n tn), some (.ref aS), sz])) S hq ?_ ?_ hKlt hLz (by simp) hL ?_
      · have hg1 : AllBare (s₁.setGen s.gens.size gs').gens := by
          show AllBare (s₁.gens.setIfInBounds _ _)
          rw [hq.1]
          show AllBare ((s'.gens.setIfInBounds _ _).setIfInBounds _ _)
          rw [S.gens]
          exact AllBare.set (AllBare.set hgb rfl) hbare
        have hgat : (s₁.setGen s.gens.size gs').gens[s.gens.size]? = some gs' := by
          have e1 : (s₁.gens)[s.gens.size]? = some .running := by
            rw [hq.1]
            exact setGen_self (s := s') (gs := gs) (by rw [S.gens]; exact hgs)
          exact setGen_self (s := s₁) e1
        generalize (s₁.setGen s.gens.size gs').gens = g1 at S1 hg1 hgat
        generalize s₁.setGen s.gens.size gs' = s₂ at S1
        refine wpAny_of_eq (a := ()) rfl ?_
        refine wpAny_assign_Name ?_
        have S := S1
        clear S1
        change St _ g1 K ((L, FrO szN [some (.ref lR), some (.int n tn), some (.ref aS), sz]) :: (aS, LpO vs) :: (ag, fun o => o = oa') :: pins [(Lg, oL'), (Ig, oI)]) s₂ at S
        kspl_open gv
        kspl_open go
        kspl_open ma
        kspl_open go
        refine' c_append S ?zu ?za ?_
        case zu => kspl_open ou
        case za => show _ ≤ 2 ^ 24; exact om258 hvl e7
        clear S
        intro s₁ S
        kspl_open go
        have hsn : (szL a b i).map dI ++ [dI (sq a b i)] = (szL a b (i + 1)).map dI := by
          unfold szL
          rw [List.range_succ, List.map_append, List.map_append]; rfl
        have hvs' : RdAll K (vs ++ [.int (sq a b i : Nat) t]) ((szL a b (i + 1)).map dI) := by
          rw [← hsn]; exact hvs.snoc (.int _ _)
        have hii : IntsAre (vs ++ [.int (sq a b i : Nat) t]) ((szL a b (i + 1)).map fun x : Nat => (x : Int)) := rdNats hvs'
        refine c_sum S hL hA.handled (S.listAt (by simp)) hii fun t s₁ S => ?_
        rw [nat_sum]
        kspl_open go
        have hall' : ∀ j, j < i + 1 → (j = 0 ∨ (szL a b j).sum < n) ∧ ¬ giEnds b j := by
          intro j hj
          rcases Nat.lt_succ_iff_lt_or_eq.mp hj with h1 | h1
          · exact hall j h1
          · subst h1; exact ⟨hsum, hne⟩
        refine ite_d (fun hge => ?_) fun hlt' => ?_
        · kspl_open go
          refine St.frzL S List.not_mem_nil hvs' fun K₂ hle₂ rc S => ?_
          have hfin : szL a b (i + 1) = P.plainL a b n := sz_plain hn ha hna hb (by exact om257 hi) hall' (.inl ⟨by exact om209 hge, by exact om224⟩)
          exact h _ _ _ _ hg1 S.ret (by rw [← hfin]; exact rc.rd)
        · kspl_open go
          have hi1 := szL_sum a b (i + 1) ha0.1
          have hn6 : n ≤ 6 := by exact om256 hn
          kspl_open bk
          refine ⟨8 - (i + 1), by exact om255 hlt' hi1 hn6, .mk (i + 1) g1 _ _ [(Lg, oL'), (Ig, oI)] rfl (by exact om254 hlt' hi1 hn6) hg1 S hvs' (.inr (by exact om208 hlt')) hall' gs' hgat fun s'' hK'' hp'' => ?_⟩
          have := hkap (by exact om253 hlt' hi1 hn6) s'' hK'' (hp'' (Lg, oL') (by simp)) (hp'' (Ig, oI) (by simp))
          have hm : 8 - i = 7 - i + 1 := by exact om252 hlt' hi1 hn6
          generalize 7 - i = m at hm
          rw [hm] at this
          have em : 8 - (i + 1) = m := by exact om251 hm
          rw [em]
          exact this
      · intro p hp
        simp only [List.mem_cons, List.not_mem_nil, or_false] at hp
        rcases hp with rfl | rfl | rfl
        · exact ⟨by simp, .inl hLlt⟩
        · exact ⟨by simp, .inl haSlt⟩
        · exact ⟨by simp, .inr rfl⟩
      · intro p hp
        simp only [List.mem_cons, List.not_mem_nil, or_false] at hp
        rcases hp with rfl | rfl
        · exact ⟨eL', Nat.le_refl _⟩
        · exact ⟨eI, Nat.le_of_lt (Nat.lt_trans hlt hIg)⟩
      · have d1 : L ≠ ag := Nat.ne_of_lt (Nat.lt_trans hLlt hlt)
        have d2 : L ≠ Lg := Nat.ne_of_lt hLlt
        have d3 : L ≠ Ig := Nat.ne_of_lt (Nat.lt_trans (Nat.lt_trans hLlt hlt) hIg)
        have d4 : aS ≠ ag := Nat.ne_of_lt (Nat.lt_trans haSlt hlt)
        have d5 : aS ≠ Lg := Nat.ne_of_lt haSlt
        have d6 : aS ≠ Ig := Nat.ne_of_lt (Nat.lt_trans (Nat.lt_trans haSlt hlt) hIg)
        have d7 : ag ≠ Lg := Nat.ne_of_gt hlt
        have d8 : ag ≠ Ig := Nat.ne_of_lt hIg
        have d9 : Lg ≠ Ig := Nat.ne_of_lt (Nat.lt_trans hlt hIg)
        simp [pins, hLaS, d1, d2, d3, d4, d5, d6, d7, d8, d9]
    · rintro s₁ r ⟨_, hends, hq⟩ h' hk
      have e8 : 8 - (8 - i) = i := by exact om250 hi
      rw [e8] at hends
      have S1 := afterGen (y := .finished) (own1 := (L, FrO szN [some (.ref lR), some (.int n tn), some (.ref aS), sz]) :: (aS, LpO vs) :: []) (pv := []) (p0 := (L, FrO szN [some (.ref lR), some (.int n tn), some (.ref aS), sz])) S hq ?_ (fun p hp => nomatch hp) hKlt hLz (by simp) hL (by simp [pins, hLaS])
      · have hg1 : AllBare (s₁.setGen s.gens.size .finished).gens := by
          show AllBare (s₁.gens.setIfInBounds _ _)
          rw [hq.1]
          show AllBare ((s'.gens.setIfInBounds _ _).setIfInBounds _ _)
          rw [S.gens]
          exact AllBare.set (AllBare.set hgb rfl) rfl
        have S := S1.keep hL (s₁.setGen s.gens.size .finished).toks hk
        change St _ _ K ((L, FrO szN [some (.ref lR), some (.int n tn), some (.ref aS), sz]) :: (aS, LpO vs) :: []) _ at S
        kspl_open gv
        refine wpAny_execs_nil ?_
        kspl_open go
        refine St.frzL S List.not_mem_nil hvs fun K₂ hle₂ rc S => ?_
        exact h _ _ _ _ hg1 S.ret (by rw [← hend (.inr ⟨hends, hsum⟩)]; exact rc.rd)
      · intro p hp
        simp only [List.mem_cons, List.not_mem_nil, or_false] at hp
        rcases hp with rfl | rfl
        · exact ⟨by simp, .inl hLlt⟩
        · exact ⟨by simp, .inl haSlt⟩
  · refine ⟨rfl, ?_⟩
    exact gi_fresh (A := A.in1) hA.handled heg (by rw [hsc]; rfl) hlt hKlt hR hG ha0 hK'' (hp'' (ag, oa') (by simp)) ⟨oL, hp'' (Lg, oL) (by simp), pL⟩
end

section
-- leads
def leadW (f g : Nat) : WS := ⟨if g = 0 then (if f = 0 then [] else [f]) else [f - g, g], 0, f + g, f⟩
theorem lead_b (f g : Nat) : (leadW f g).b = 0 := rfl
theorem lead_len (f g : Nat) : (leadW f g).count.length = if g = 0 then (if f = 0 then 0 else 1) else 2 := by
  unfold leadW
  dsimp only
  split
  · split <;> rfl
  · rfl
theorem lead_small (f g : Nat) : Small (leadW f g) := ⟨by rw [lead_b]; decide, by
  rw [lead_len]
  split
  · split <;> decide
  · decide⟩
theorem lead_run (f g : Nat) : lrun (leadW f g) = if g = 0 then 0 else 1 := by
  unfold lrun
  rw [lead_len, lead_b]
  split
  · split <;> rfl
  · rfl
theorem lead_il1 {f g : Nat} : ilv (leadW f g) 1 = f + g := by
  unfold ilv
  rw [lead_len, lead_b]
  by_cases hg : g = 0
  · subst hg
    by_cases hf : f = 0
    · subst hf; rfl
    · rw [if_pos rfl, if_neg hf]
      show 0 + 1 * (0 + f) = f + 0
      exact om283
  · rw [if_neg hg]
    have e : (leadW f g).count.getD 1 0 = g := by unfold leadW; rw [if_neg hg]; rfl
    show 0 + 1 * ((0 + (1 + 0) / 1 * (leadW f g).count.getD 1 0) + f) = f + g
    rw [e]; omega
theorem lead_il2 {f g : Nat} : ilv (leadW f g) 2 = 2 * f := by
  unfold ilv
  rw [lead_len, lead_b]
  have : (if g = 0 then (if f = 0 then 0 else 1) else 2) - 2 = 0 := by
    split
    · split <;> rfl
    · rfl
  rw [this]
  show 0 + 2 * (0 + f) = 2 * f
  exact om282
def colsL (f g F G : Nat) : List Row3 := if G = 0 then [(1, F + G, f + g)] else [(1, F + G, f + g), (2, 2 * F, 2 * f)]
structure Rise (f g F G : Nat) : Prop where
  few : f ≤ F
  kept : g ≤ G
  gf : g ≤ f
  GF : G ≤ F
  one : 1 ≤ f
  lid : F ≤ 64
theorem rise_many {f g F G : Nat} (h : Rise f g F G) : many2 (leadW F G) (leadW f g) = if G = 0 then 1 else 2 := by
  have h2 := h.kept
  unfold many2
  rw [lead_run, lead_run]
  split <;> rename_i hG
  · rw [if_pos (by exact om272 h2 hG)]; rfl
  · split <;> rfl
theorem many_comm (x y : WS) : many2 x y = many2 y x := by unfold many2; exact om281
theorem rise_told {f g F G : Nat} (h : Rise f g F G) : rowsTo (leadW F G) (leadW f g) (many2 (leadW F G) (leadW f g)) = colsL f g F G := by
  have h1 := h.few
  have h2 := h.kept
  rw [rise_many h]
  unfold colsL
  by_cases hG : G = 0
  · rw [if_pos hG, if_pos hG, rowsTo, if_pos (by rw [lead_il1, lead_il1]; exact om279 h1 h2), rowsTo, lead_il1, lead_il1]; rfl
  · rw [if_neg hG, if_neg hG, rowsTo, if_pos (by show ilv _ 2 ≥ ilv _ 2; rw [lead_il2, lead_il2]; exact om280 h1), rowsTo, if_pos (by show ilv _ 1 ≥ ilv _ 1; rw [lead_il1, lead_il1]; exact om279 h1 h2), rowsTo]
    show [] ++ [(1, ilv _ 1, ilv _ 1)] ++ [(2, ilv _ 2, ilv _ 2)] = _
    rw [lead_il1, lead_il1, lead_il2, lead_il2]; rfl
theorem rise_back {f g F G : Nat} (h : Rise f g F G) : rowsTo (leadW f g) (leadW F G) (many2 (leadW f g) (leadW F G)) = (colsL f g F G).filter fun r => r.2.1 == r.2.2 := by
  have h1 := h.few
  have h2 := h.kept
  rw [many_comm, rise_many h]
  unfold colsL
  have k1 : ∀ tl, (if ilv (leadW f g) (0 + 1) ≥ ilv (leadW F G) (0 + 1) then rowsTo (leadW f g) (leadW F G) 0 ++ [(0 + 1, ilv (leadW f g) (0 + 1), ilv (leadW F G) (0 + 1))] else rowsTo (leadW f g) (leadW F G) 0) ++ tl = ([(1, F + G, f + g)] : List Row3).filter (fun r => r.2.1 == r.2.2) ++ tl := by
    intro tl
    show (if ilv (leadW f g) 1 ≥ ilv (leadW F G) 1 then [] ++ [(1, ilv (leadW f g) 1, ilv (leadW F G) 1)] else []) ++ tl = _
    rw [lead_il1, lead_il1]
    by_cases e : F + G = f + g
    · rw [if_pos (by exact om278 e)]
      simp [List.filter_cons, e]
    · rw [if_neg (by exact om277 h1 h2 e)]
      simp [List.filter_cons, e]
  by_cases hG : G = 0
  · rw [if_pos hG, if_pos hG, rowsTo]
    have := k1 []
    simpa using this
  · rw [if_neg hG, if_neg hG, rowsTo]
    show (if ilv (leadW f g) 2 ≥ ilv (leadW F G) 2 then rowsTo (leadW f g) (leadW F G) (0 + 1) ++ [(2, ilv (leadW f g) 2, ilv (leadW F G) 2)] else rowsTo (leadW f g) (leadW F G) (0 + 1)) = _
    rw [lead_il2, lead_il2, rowsTo]
    by_cases e : F = f
    · rw [if_pos (by exact om276 e)]
      rw [k1]
      subst e
      show _ = ([(1, F + G, F + g)] ++ [(2, 2 * F, 2 * F)] : List Row3).filter _
      rw [List.filter_append]
      simp
    · rw [if_neg (by exact om275 h1 e)]
      have := k1 []
      rw [List.append_nil, List.append_nil] at this
      rw [this]
      have e2 : ¬ (2 * F = 2 * f) := by exact om274 e
      simp [List.filter_cons, e2]
theorem rise_less {f g F G : Nat} (h : Rise f g F G) : lessB (leadW f g) (leadW F G) = decide (f < F) := by
  have h1 := h.few
  have h2 := h.kept
  unfold lessB
  show (if f + g ≥ F + G then false else _) = _
  by_cases e : f + g ≥ F + G
  · rw [if_pos e, eq_comm]; exact decide_eq_false (by exact om273 h2 e)
  · rw [if_neg e]
    by_cases hG : G = 0
    · have hs : simple (leadW f g) = true ∧ simple (leadW F G) = true := by
        unfold simple
        rw [lead_len, lead_len, if_pos (by exact om272 h2 hG), if_pos hG]
        constructor <;> (apply decide_eq_true; split <;> omega)
      rw [if_pos hs]
      show decide (f ≤ F) = decide (f < F)
      rw [decide_eq_true h1, decide_eq_true (by exact om271 e hG)]
    · have hs : ¬ (simple (leadW f g) = true ∧ simple (leadW F G) = true) := by
        unfold simple
        rw [lead_len, lead_len, if_neg hG]
        simp
      rw [if_neg hs, many_comm, rise_many h, if_neg hG]
      show ([0] : List Nat).all _ = _
      simp only [List.all_cons, List.all_nil, Bool.and_true, Nat.zero_add]
      rw [lead_il2, lead_il2]
      by_cases e2 : f < F
      · rw [decide_eq_true e2, decide_eq_true (by exact om270 e2)]
      · rw [decide_eq_false e2, decide_eq_false (by exact om269 e2)]
theorem rise_equal {f g F G : Nat} (h : Rise f g F G) : decide ((leadW f g).count = (leadW F G).count ∧ (leadW f g).b = (leadW F G).b) = decide (f = F ∧ g = G) := by
  have h1 := h.few
  have h2 := h.kept
  have h3 := h.one
  have h4 := h.gf
  have h5 := h.GF
  by_cases e : f = F ∧ g = G
  · obtain ⟨rfl, rfl⟩ := e
    simp
  · rw [decide_eq_false e, decide_eq_false]
    rintro ⟨hc, _⟩
    apply e
    have hf : f ≠ 0 := by exact om268 h3
    have hF : F ≠ 0 := by exact om267 h1 hf
    by_cases hg : g = 0
    · by_cases hG : G = 0
      · simp [leadW, hg, hG, hf, hF] at hc
        exact om266 hg hG hc
      · simp [leadW, hg, hG, hf] at hc
    · by_cases hG : G = 0
      · exact (om265 h2 hg hG).elim
      · simp [leadW, hg, hG] at hc
        exact om264 h4 h5 hc
end

section
section
set_option maxRecDepth 100000
end
theorem St.shrink {c : Cx} {g : Gs} {K K' : KP} {own : Own} {s : Shared} (S : St c g K' own s) (h0 : ∀ b o, c.K0 b o → K b o) (hle : Le K K') : St c g K own s :=
  ⟨h0, fun b o h => S.new b o (hle b o h), fun b o h => S.kept b o (hle b o h), S.base, S.size, S.owned, S.ownNew, fun b o h => S.sep b o (hle b o h), S.nd, S.gens, S.os⟩
/-- what may stand for mutable addresses is owned -/
def MuIn (mu : List Addr) (own : Own) : Prop := ∀ a ∈ mu, ∃ P, (a, P) ∈ own
theorem St.out {c : Cx} {g : Gs} {K : KP} {p : Addr × Pr} {D : Addr} {P : Pr} {rest : Own} {s : Shared} (S : St c g K (p :: (D, P) :: rest) s) (h : MuIn c.mu rest) : D ∉ c.mu := by
  intro hD
  obtain ⟨P', h⟩ := h D hD
  have nd := S.nd
  simp only [List.map_cons, List.nodup_cons] at nd
  exact nd.2.1 (List.mem_map.mpr ⟨_, h, rfl⟩)
/-- a frozen list of Whitespaces -/
def Leads (K : KP) (v : Value) (fs : List (Nat × Nat)) : Prop := ∃ a o vs, v = .ref a ∧ K a o ∧ LpO vs o ∧ vs.length = fs.length ∧ ∀ (i : Nat) (u : Value) (p : Nat × Nat), vs[i]? = some u → fs[i]? = some p → WsO K u (leadW p.1 p.2)
theorem Leads.mono {K K' : KP} {v : Value} {fs : List (Nat × Nat)} (h : Leads K v fs) (l : Le K K') : Leads K' v fs := by
  obtain ⟨a, o, vs, e, k, h1, h2, h3⟩ := h
  exact ⟨a, o, vs, e, l _ _ k, h1, h2, fun i u p hu hp => (h3 i u p hu hp).mono l⟩
def great (row : List Str) : Nat := (row.filter fun w => w == Txt.upper w).length
abbrev riseFd : Fd := fdOf (topS 25)
abbrev riseN : List Str := ["due", "leads", "size", "many", "low", "high", "few", "more", "kept", "gains", "told", "columns"]
theorem rise_scope : ScopeOk riseFd.S riseN ["len", "format_witnesses"] := by
  refine ⟨by rfl, by decide, by decide +kernel, by decide +kernel, by decide +kernel, by exact ⟨rfl, rfl⟩⟩
section
variable {prog : Program} {w : World} {A : Around} {E : Value → Shared → Prop} {c : Cx} {g : Gs} {K : KP} {own : Own} {s : Shared} {env : Env} {L : Addr} {names gn : List Str} {vals : List (Option Value)}
theorem ld_sub {value slice : Expr} {v : Value} {fs : List (Nat × Nat)} {i : Nat} {u : Tok} {p : Nat × Nat} {Q : Value → Shared → Prop} (S : St c g K own s) (hL : Leads K v fs) (hp : fs[i]? = some p) (hi : i < 2 ^ 62)
    (h : ∀ x, WsO K x (leadW p.1 p.2) → Q x s) (hs : ∀ a, subscripted slice false (.ref a) (.int i u) = operate [.ref a, .int i u] (getItem (.ref a) (.int i u)) := by intro _; with_unfolding_all rfl) :
    wpAny (model prog w) A (subscriptTail value slice v (.int i u)) Q E s := by
  obtain ⟨a, o, vs, rfl, k, ⟨n, rfl⟩, hl, hw⟩ := hL
  have hlt : i < vs.length := by rw [hl]; exact (List.getElem?_eq_some_iff.mp hp).1
  exact sub_list (lp_is ⟨_, S.kept _ _ k, n, rfl⟩) rfl (List.getElem?_eq_getElem hlt) hi (h _ (hw i _ p (List.getElem?_eq_getElem hlt) hp)) (hs a)
end
theorem great_snoc (row : List Str) {j : Nat} {x : Str} (h : row[j]? = some x) : great (row.take (j + 1)) = great (row.take j) + if (x == Txt.upper x) = true then 1 else 0 := by
  have e : row.take (j + 1) = row.take j ++ [x] := by rw [List.take_add_one, h]; rfl
  unfold great
  rw [e, List.filter_append, List.length_append]
  by_cases hx : (x == Txt.upper x) = true
  · rw [if_pos hx]; simp [List.filter_cons, hx]
  · rw [if_neg hx]; simp [List.filter_cons, hx]
theorem up_fits {x : Str} (h : (Txt.upper x).cps.size < 100) : Builtin.Str.tooLong (Txt.upper x).length = false := by
  have : (Txt.upper x).length < 100 := h
  unfold Builtin.Str.tooLong
  exact decide_eq_false (Nat.not_lt_of_le (Nat.le_trans (Nat.le_of_lt this) (by decide)))
theorem isnot_bool_same {prog : Program} {w : World} {A : Around} {E : Value → Shared → Prop} {s : Shared} {b : Bool} {Q : Value → Shared → Prop} (h : Q (.bool false) s) : wpAny (model prog w) A (compareOp .IsNot (.bool b) (.bool b)) Q E s := by
  have e : (!(Value.bool b == Value.bool b)) = false := by simp
  exact wpAny_pure (a := Value.bool (!(Value.bool b == Value.bool b))) (by rw [e]; exact h)
theorem eqv_rows : ∀ l m : List Row3, PyData.eqvAll (l.map dRow) (m.map dRow) = decide (l = m)
  | [], [] => by simp [PyData.eqvAll]
  | [], _ :: _ => by simp [PyData.eqvAll]
  | _ :: _, [] => by simp [PyData.eqvAll]
  | (a, b, e) :: r, (a', b', e') :: t => by
    simp only [List.map_cons, PyData.eqvAll, PyData.eqv, eqv_rows r t]
    by_cases h : a = a' <;> by_cases h1 : b = b' <;> by_cases h2 : e = e' <;> by_cases h' : r = t <;> simp [h, h1, h2, h'] <;> omega
theorem rows_shaped {l : List Row3} (h : l.length < 100) : SeqAt.shaped (.list (l.map dRow)) = true := by
  have h1 : PyData.canLayAll0 (l.map dRow) = true := canLay_map _ l fun x _ => rfl
  have h2 : PyData.depthAll (l.map dRow) ≤ 1 := depth_map _ 1 l fun x _ => Nat.le_of_eq rfl
  unfold SeqAt.shaped
  rw [PyData.canLay0, PyData.depth, h1, Bool.true_and]
  exact decide_eq_true (by exact om291 h2)
abbrev eqCols (l : List (Nat × Nat × Nat)) : List (Nat × Nat × Nat) := l.filter fun r => r.2.1 == r.2.2
theorem cols_yes {K K' : KP} {l : List (Nat × Nat × Nat)} {x : Nat × Nat × Nat} {j : Nat} {ys : List Value} {y : Value} (h : l[j]? = some x) (hb : x.2.1 = x.2.2) (hle : Le K K') (hy : RdAll K ys ((eqCols (l.take j)).map dRow)) (rd : Rd K' y (dRow x)) : RdAll K' (ys ++ [y]) ((eqCols (l.take (j + 1))).map dRow) := by
  have e : l.take (j + 1) = l.take j ++ [x] := by rw [List.take_add_one, h]; rfl
  rw [eqCols, e, List.filter_append, List.map_append]
  refine (hy.mono hle).append ?_
  rw [List.filter_cons, if_pos (beq_iff_eq.mpr hb)]
  exact .cons rd .nil
theorem cols_no {K : KP} {l : List (Nat × Nat × Nat)} {x : Nat × Nat × Nat} {j : Nat} {ys : List Value} (h : l[j]? = some x) (hb : x.2.1 ≠ x.2.2) (hy : RdAll K ys ((eqCols (l.take j)).map dRow)) : RdAll K ys ((eqCols (l.take (j + 1))).map dRow) := by
  have e : l.take (j + 1) = l.take j ++ [x] := by rw [List.take_add_one, h]; rfl
  rw [eqCols, e, List.filter_append, List.map_append, List.filter_cons, if_neg (by rw [beq_iff_eq]; exact hb)]
  show RdAll _ _ (_ ++ [])
  rw [List.append_nil]
  exact hy
set_option maxRecDepth 100000 in
set_option maxHeartbeats 4000000 in
theorem rise_tail {prog : Program} {w : World} {A : Around} {c : Cx} {g : Gs} {K : KP} {own : Own} {s₁ : Shared} {env : Env} {L : Addr} {k sz many f g0 F G : Nat} {vD vL vlow vhigh vt vc : Value} {t1 t2 tg tk tf tm : Tok} {fs : List (Nat × Nat)} {Pp : Params} {Nq : Flow → Shared → Prop}
    (S : St c g K ((L, FrO riseN [some vD, some vL, some (.int sz t1), some (.int many t2), some vlow, some vhigh, some (.int f tf), some (.int F tm), some (.int g0 tk), some (.int G tg), some vt, some vc]) :: own) s₁)
    (hL : c.h0.objs.size ≤ L) (he : EnvF env L riseN ["len", "format_witnesses"]) (hT : (106, TabO) ∈ own) (hmu : MuIn c.mu own) (hX : InK (KFh Pp) K) (hG : GB K gl bl) (hB : BMK K) (hA : AOk A (k + 2)) (hgb : AllBare g) (hLd : Leads K vL fs)
    (hf2 : fs[many - sz]? = some (f, g0)) (hsm : sz ≤ many) (hmz : many < 100) (hR : Rise f g0 F G) (rt : Rd K vt (.list ((colsL f g0 F G).map dRow))) (rc : Rd K vc (.list ((colsL f g0 F G).map dRow))) (wlow : WsO K vlow (leadW f g0)) (whigh : WsO K vhigh (leadW F G))
    (h : ∀ g' s', AllBare g' → St c g' K own s' → Nq (.ret (.bool true)) s') :
    wpAny (model prog w) A (execs (riseFd.B.drop 6) env) Nq (fun _ _ => False) s₁ := by
  have hK0 := S.le
  have hlen : (colsL f g0 F G).length ≤ 2 := by unfold colsL; split <;> simp
  have hsh := rows_shaped (l := colsL f g0 F G) (by exact om286 hlen)
  kspl_open gv
  kspl_open go
  refine t_or2 ?_
  kspl_open go
  refine ws_n S hX whigh fun t s₁ S => ?_
  kspl_open go
  refine ws_nt S hX whigh fun t s₁ S => ?_
  kspl_open go
  refine ws_n S hX wlow fun t s₁ S => ?_
  kspl_open go
  refine ws_nt S hX wlow fun t s₁ S => ?_
  kspl_open go
  have hk := hR.kept
  rw [decide_eq_false (p := ((leadW F G).n : Int) - ((leadW F G).nt : Int) < ((leadW f g0).n : Int) - ((leadW f g0).nt : Int)) (by show ¬ (((F + G : Nat) : Int) - (F : Nat) < ((f + g0 : Nat) : Int) - (f : Nat)); exact om290 hk), if_neg Bool.false_ne_true]
  kspl_open go
  refine ne_rd S rt rc hsh hsh hA ?_
  rw [PyData.eqv, eqv_rows, decide_eq_true rfl, Bool.not_true]
  kspl_open go
  rw [if_neg Bool.false_ne_true]
  kspl_open go
  refine ws_meth S hX wlow (p_nl Pp) (by decide) ?_
  kspl_open go
  refine callWith_K (hX.in_ S) (k_nl Pp) ?_
  kspl_open go
  refine ⟨hX.in_ S, wnl_spec hX hG S.kept hA wlow whigh (lead_small _ _) (lead_small _ _) fun vb K₁ s₁ r rb => ?_⟩
  have S := S.call r
  have hle := r.le
  clear r
  rw [rise_back hR] at rb
  have hG := hG.mono hle
  have hX := hX.mono hle
  have rc := rc.mono hle
  have rt := rt.mono hle
  have wlow := wlow.mono hle
  have whigh := whigh.mono hle
  have hB := hB.mono hle
  have hLd := hLd.mono hle
  kspl_open go
  refine ev_comp (cl := []) (closureFor_none (by decide)) rfl (by decide) ?_
  kspl_open go
  refine it_rd S hA.handled rc fun I s₁ S W => ?_
  refine cmp_k (cgn := []) (fun j K' ys => RdAll K' ys ((eqCols ((colsL f g0 F G).take j)).map dRow)) S W.map (by decide) rfl (comp_env he rfl (by decide) (fun _ h => nomatch h)) (by show _ ≤ 2 ^ 24; exact om289 hlen) .nil ?_ ?_ ?_
  · intro j K₂ ys s₁ PI2 C D E' Nn Nf hj hle₂ hys he' hC hNl hNf x xv hxj rd S
    have he := he'
    have rd := rd.mono hle₂
    refine one_if ?_
    kspl_open go
    refine sub_tup S rd (i := 1) rfl rfl (by decide) fun v1 r1 => ?_
    obtain ⟨u1, rfl⟩ := r1.intE
    kspl_open go
    refine sub_tup S rd (i := 2) rfl rfl (by decide) fun v2 r2 => ?_
    obtain ⟨u2, rfl⟩ := r2.intE
    kspl_open go
    refine ite_b (fun hb => ?_) fun hb => ?_
    · have hb : x.2.1 = x.2.2 := by simp at hb; exact om288 hb
      kspl_open go
      exact hNl _ _ _ _ (Le.refl _) (cols_yes hxj hb (Le.refl _) hys rd) S
    · have hb : x.2.1 ≠ x.2.2 := by simp at hb; exact om287 hb
      kspl_open go
      exact hNf _ _ _ (Le.refl _) (cols_no hxj hb hys) S
  · intro j K₂ ys hys
    rw [hys.length, List.length_map]
    refine Nat.le_trans (List.length_filter_le _ _) ?_
    rw [List.length_take]; exact om124
  intro K₂ ys s₁ D hle₂ hys S
  rw [List.take_of_length_le (Nat.le_refl _)] at hys
  kspl_open go
  have hle1 := hle
  clear hle
  refine St.frzL S (S.out hmu) hys fun K₃ hle₃ rc2 S => ?_
  have hle := hle₂.trans hle₃
  have rb' := rc2.rd
  clear hys rc2 hle₂ hle₃
  have hG := hG.mono hle
  have hX := hX.mono hle
  have rb := rb.mono hle
  have rt := rt.mono hle
  have wlow := wlow.mono hle
  have whigh := whigh.mono hle
  have hB := hB.mono hle
  have hLd := hLd.mono hle
  have hsh2 := rows_shaped (l := (colsL f g0 F G).filter fun r => r.2.1 == r.2.2) (Nat.lt_of_le_of_lt (List.length_filter_le _ _) (by exact om286 hlen))
  refine ne_rd S rb rb' hsh2 hsh2 hA ?_
  rw [PyData.eqv, eqv_rows, decide_eq_true rfl, Bool.not_true]
  kspl_open go
  rw [if_neg Bool.false_ne_true]
  kspl_open go
  refine callWith_K (hX.in_ S) (k_fw Pp) ?_
  kspl_open go
  refine ⟨hX.in_ S, wpAny_call (fw_code S (List.mem_cons_of_mem _ hT) hX hG hB hA hgb rt (n := if G = 0 then 1 else 2) (by split; exact .inl rfl; exact .inr rfl) ?_ fun g' s₁ t9 hgb' S => ?_)⟩
  · unfold colsL; split <;> rfl
  clear hgb
  have hgb := hgb'
  clear hgb'
  kspl_open go
  have fin : ∀ s₁, St c g' (K₃) ((L, FrO riseN [some vD, some vL, some (.int sz t1), some (.int many t2), some vlow, some vhigh, some (.int f tf), some (.int F tm), some (.int g0 tk), some (.int G tg), some vt, some vc]) :: own) s₁ →
      wpAny (model prog w) A (execs (riseFd.B.drop 9) env) Nq (fun _ _ => False) s₁ := by
    intro s₁ S
    kspl_open go
    refine t_or2 ?_
    kspl_open go
    refine ws_meth S hX wlow (p_ls Pp) (by decide) ?_
    kspl_open go
    refine callWith_K (hX.in_ S) (k_ls Pp) ?_
    kspl_open go
    refine ⟨hX.in_ S, wls_spec hX hG S.kept hA wlow whigh (lead_small _ _) (lead_small _ _) fun K' s₁ r => ?_⟩
    have S := S.call0 r
    clear r
    kspl_open go
    rw [rise_less hR, show decide (f < F) = decide ((f : Int) < (F : Int)) from by simp]
    refine isnot_bool_same ?_
    kspl_open go
    rw [if_neg Bool.false_ne_true]
    kspl_open go
    refine ws_meth S hX wlow (p_eq Pp) (by decide) ?_
    kspl_open go
    refine callWith_K (hX.in_ S) (k_eq Pp) ?_
    kspl_open go
    refine ⟨hX.in_ S, weq_spec hX hG S.kept hA wlow whigh fun K' s₁ r => ?_⟩
    have S := S.call0 r
    clear r
    kspl_open go
    refine nw_tuple S (.cons (.int _ _) (.cons (.int _ _) .nil)) fun aT1 s₁ K₂ hle₂ S rT1 => ?_
    kspl_open go
    refine nw_tuple S (.cons (.int _ _) (.cons (.int _ _) .nil)) fun aT2 s₁ K₃ hle₃ S rT2 => ?_
    kspl_open go
    refine eq_rd S (rT1.mono hle₃) rT2 (by rfl) (by rfl) hA ?_
    rw [rise_equal hR, show PyData.eqv (.tuple [.int (f : Int), .int (g0 : Int)]) (.tuple [.int (F : Int), .int (G : Int)]) = decide (f = F ∧ g0 = G) from by
      simp only [PyData.eqv, PyData.eqvAll]
      by_cases h1 : f = F <;> by_cases h2 : g0 = G <;> simp [h1, h2] <;> omega]
    refine isnot_bool_same ?_
    kspl_open go
    rw [if_neg Bool.false_ne_true]
    kspl_open go
    have hX := hX.mono (hle₂.trans hle₃)
    have hG := hG.mono (hle₂.trans hle₃)
    have wlow := wlow.mono (hle₂.trans hle₃)
    refine ws_meth S hX wlow (p_eq Pp) (by decide) ?_
    kspl_open go
    refine callWith_K (hX.in_ S) (k_eq Pp) ?_
    kspl_open go
    rw [show (many : Int) - (sz : Int) = ((many - sz : Nat) : Int) from by exact om285 hsm]
    refine ld_sub S (hLd.mono (hle₂.trans hle₃)) hf2 (by exact om284 hmz) fun v3 w3 => ?_
    kspl_open go
    refine ⟨hX.in_ S, weq_spec hX hG S.kept hA wlow w3 fun K' s₁ r => ?_⟩
    have S := S.call0 r
    clear r
    rw [decide_eq_true (And.intro rfl rfl)]
    kspl_open go
    exact h _ _ hgb (S.shrink hK0 (hle1.trans (hle.trans (hle₂.trans hle₃)))).drop0
  refine ite_b (fun hz => ?_) fun hz => ?_
  · have hz : G ≠ 0 := by simp at hz; exact om158 hz
    rw [if_neg hz]
    kspl_open go
    refine PyProof.Rows.ne_str ?_
    kspl_open go
    rw [if_neg (by decide)]
    kspl_open one
    kspl_open bk
    exact hNn _ _ (fin _ S)
  · have hz : G = 0 := by simp at hz; exact om152 hz
    rw [if_pos hz]
    kspl_open go
    refine PyProof.Rows.ne_str ?_
    kspl_open go
    rw [if_neg (by decide)]
    kspl_open one
    kspl_open bk
    exact hNn _ _ (fin _ S)
end

section
def PTxt (l : List Str) (i : Nat) (C : Value → Prop) : Prop := ∀ x t, l[i]? = some x → C (.str x t)
theorem Iter.txt {prog : Program} {w : World} {A : Around} {c : Cx} {K : KP} {I : Addr} {l : List Str} {h : Heap} (W : Iter prog w A c K I (l.map PyData.str).length (fun i v => ∃ d, (l.map PyData.str)[i]? = some d ∧ Rd K v d) h) : Iter prog w A c K I l.length (Chu (PTxt l)) h :=
  W.map.imp rfl fun i v _ hv C k => hv C fun x v hx rd => rd.strC fun t => k x t hx
theorem great_yes {r : List Str} {x : Str} {j : Nat} {ys : List Value} {y : Value} (h : r[j]? = some x) (hy : ys.length = great (r.take j)) (hb : (x == Txt.upper x) = true) : (ys ++ [y]).length = great (r.take (j + 1)) := by
  rw [List.length_append, List.length_singleton, hy, great_snoc r h, if_pos hb]
theorem great_no {r : List Str} {x : Str} {j : Nat} {ys : List Value} (h : r[j]? = some x) (hy : ys.length = great (r.take j)) (hb : (x == Txt.upper x) = false) : ys.length = great (r.take (j + 1)) := by
  rw [hy, great_snoc r h, if_neg (by rw [hb]; exact Bool.false_ne_true)]; rfl
theorem great_le {r : List Str} {j n : Nat} (h : n = great (r.take j)) : n ≤ j := by
  rw [h]; exact Nat.le_trans (List.length_filter_le _ _) (by rw [List.length_take]; exact om124)
theorem great_all {r : List Str} {n : Nat} (h : n = great (r.take r.length)) : n = great r := by rw [List.take_of_length_le (Nat.le_refl _)] at h; exact h
set_option maxRecDepth 100000 in
set_option maxHeartbeats 4000000 in
theorem rise_code {prog : Program} {w : World} {A : Around} {c : Cx} {g : Gs} {K : KP} {own : Own} {s : Shared} {k sz many : Nat} {vD vL : Value} {t1 t2 : Tok} {rows : List (List Str)} {fs : List (Nat × Nat)} {r0 r1 : List Str} {Pp : Params} {R : Result → Shared → Prop}
    (S : St c g K own s) (hT : (106, TabO) ∈ own) (hmu : MuIn c.mu own) (hX : InK (KFh Pp) K) (hG : GB K gl bl) (hB : BMK K) (hA : AOk A (k + 3)) (hgb : AllBare g) (hD : Rd K vD (dDue rows)) (hLd : Leads K vL fs)
    (h0 : rows[sz]? = some r0) (h1 : rows[sz + 1]? = some r1) (hf0 : fs[sz]? = some (r0.length, great r0)) (hf1 : fs[sz + 1]? = some (r1.length, great r1)) (hf2 : fs[many - sz]? = some (r0.length, great r0)) (hsm : sz ≤ many) (hmz : many < 100)
    (hR : Rise r0.length (great r0) r1.length (great r1)) (hw0 : ∀ w ∈ r0, (Txt.upper w).cps.size < 100) (hw1 : ∀ w ∈ r1, (Txt.upper w).cps.size < 100)
    (h : ∀ g' s', AllBare g' → St c g' K own s' → R (.ok (.ret (.bool true))) s') :
    codeAny (model prog w) A (.call (.ref 328) ⟨[vD, vL, .int sz t1, .int many t2], []⟩) R s := by
  have hK0 := S.le
  refine code_funL (vals := [some vD, some vL, some (.int sz t1), some (.int many t2), none, none, none, none, none, none, none, none]) S (f_rise hX) hG hA rise_scope (ps := ["due", "leads", "size", "many"]) (ls := ["low", "high", "few", "more", "kept", "gains", "told", "columns"]) rfl rfl rfl (fun _ _ _ _ _ => rfl) fun L env s₁ A Nn hL hA he S hNn => ?_
  kspl_open gv
  have hN0 := hNn
  kspl_open one
  refine x_swap2 (swapped2 he (he.all _ (by decide)).1 (he.all _ (by decide)).1 (by decide) (by decide) (by rfl) (by decide +kernel) (by decide +kernel)) ?_
  kspl_open go
  refine ld_sub S hLd hf0 (by exact om295 hsm hmz) fun vlow wlow => ?_
  kspl_open go
  have e1 : (sz : Int) + 1 = ((sz + 1 : Nat) : Int) := by exact om106
  rw [e1]
  refine ld_sub S hLd hf1 (by exact om294 hsm hmz) fun vhigh whigh => ?_
  kspl_open go
  refine nw_tupV S fun aT s₁ K₁ hle₁ S hT1 => ?_
  refine un_tup2 S hL hA.handled hT1 rfl fun s₁ S => ?_
  have S := S.shrink hK0 hle₁
  clear hle₁ hT1
  kspl_open go
  have hr0 : (rows.map fun r => PyData.list (r.map PyData.str))[sz]? = some (.list (r0.map PyData.str)) := by rw [List.getElem?_map, h0]; rfl
  have hr1 : (rows.map fun r => PyData.list (r.map PyData.str))[sz + 1]? = some (.list (r1.map PyData.str)) := by rw [List.getElem?_map, h1]; rfl
  refine x_swap2 (swapped2 he (he.all _ (by decide)).1 (he.all _ (by decide)).1 (by decide) (by decide) (by rfl) (by decide +kernel) (by decide +kernel)) ?_
  kspl_open go
  refine sub_rd S hD rfl hr0 (by exact om295 hsm hmz) fun va ra => ?_
  kspl_open go
  refine c_len_rd S ra (by rw [List.length_map]; have := hR.lid; have := hR.few; omega) fun t s₁ S => ?_
  rw [List.length_map]
  kspl_open go
  rw [e1]
  refine sub_rd S hD rfl hr1 (by exact om294 hsm hmz) fun vb rb => ?_
  kspl_open go
  refine c_len_rd S rb (by rw [List.length_map]; have := hR.lid; exact om296 this) fun t s₁ S => ?_
  rw [List.length_map]
  kspl_open go
  refine nw_tupV S fun aT s₁ K₂ hle₂ S hT1 => ?_
  refine un_tup2 S hL hA.handled hT1 rfl fun s₁ S => ?_
  have S := S.shrink hK0 hle₂
  clear hle₂ hT1
  kspl_open go
  refine ev_comp (cl := []) (closureFor_none (by decide)) rfl (by decide) ?_
  kspl_open go
  refine sub_rd S hD rfl hr0 (by exact om295 hsm hmz) fun va ra => ?_
  refine it_rd S hA.handled ra fun I s₁ S W => ?_
  refine cmp_k (cgn := []) (fun j _ ys => ys.length = great (r0.take j)) S W.txt (by decide) rfl (comp_env he rfl (by decide) (fun _ h => nomatch h)) (by have := hR.lid; have := hR.few; show _ ≤ 2 ^ 24; omega) rfl ?_ (fun _ _ _ h => great_le h) ?_
  · intro j K₂ ys s₁ PI2 C D E' Nn Nf hj hle₂ hys he' hC hNl hNf x tx hxj S
    have he := he'
    refine one_if ?_
    kspl_open go
    refine GM.upper ?_
    kspl_open go
    refine c_upper S (up_fits (hw0 x (List.mem_of_getElem? hxj))) fun t1 s₁ S => ?_
    kspl_open go
    refine PyProof.Rows.eq_str ?_
    kspl_open go
    refine ite_b (fun hb => ?_) fun hb => ?_
    · kspl_open go
      exact hNl _ _ _ _ (Le.refl _) (great_yes hxj hys hb) S
    · kspl_open go
      exact hNf _ _ _ (Le.refl _) (great_no hxj hys hb) S
  intro K₂ ys s₁ D hle₂ hys S
  have hys := great_all hys
  have S := S.shrink hK0 hle₂
  kspl_open go
  have hG0 : great r0 ≤ 64 := by have := hR.lid; have := hR.few; have := hR.gf; have := hR.GF; omega
  refine' c_len (vs := ys) S (St.listAt S ?zm) (by exact om293 hys hG0) ?_
  case zm => kspl_open me
  clear S
  intro t s₁ S
  rw [hys]
  have S := S.drop1
  clear hys
  kspl_open go
  refine ev_comp (cl := []) (closureFor_none (by decide)) rfl (by decide) ?_
  kspl_open go
  rw [e1]
  refine sub_rd S hD rfl hr1 (by exact om294 hsm hmz) fun va ra => ?_
  refine it_rd S hA.handled ra fun I s₁ S W => ?_
  refine cmp_k (cgn := []) (fun j _ ys => ys.length = great (r1.take j)) S W.txt (by decide) rfl (comp_env he rfl (by decide) (fun _ h => nomatch h)) (by have := hR.lid; have := hR.few; show _ ≤ 2 ^ 24; omega) rfl ?_ (fun _ _ _ h => great_le h) ?_
  · intro j K₂ ys s₁ PI2 C D E' Nn Nf hj hle₂ hys he' hC hNl hNf x tx hxj S
    have he := he'
    refine one_if ?_
    kspl_open go
    refine GM.upper ?_
    kspl_open go
    refine c_upper S (up_fits (hw1 x (List.mem_of_getElem? hxj))) fun t1 s₁ S => ?_
    kspl_open go
    refine PyProof.Rows.eq_str ?_
    kspl_open go
    refine ite_b (fun hb => ?_) fun hb => ?_
    · kspl_open go
      exact hNl _ _ _ _ (Le.refl _) (great_yes hxj hys hb) S
    · kspl_open go
      exact hNf _ _ _ (Le.refl _) (great_no hxj hys hb) S
  intro K₂ ys s₁ D hle₂ hys S
  have hys := great_all hys
  have S := S.shrink hK0 hle₂
  kspl_open go
  have hG1 : great r1 ≤ 64 := by have := hR.lid; have := hR.few; have := hR.gf; have := hR.GF; omega
  refine' c_len (vs := ys) S (St.listAt S ?zm) (by exact om293 hys hG1) ?_
  case zm => kspl_open me
  clear S
  intro t s₁ S
  rw [hys]
  have S := S.drop1
  clear hys
  kspl_open go
  -- told
  refine ws_meth S hX whigh (p_nl Pp) (by decide) ?_
  kspl_open go
  refine callWith_K (hX.in_ S) (k_nl Pp) ?_
  kspl_open go
  refine ⟨hX.in_ S, wnl_spec hX hG S.kept hA whigh wlow (lead_small _ _) (lead_small _ _) fun vt K₁ s₁ r rt => ?_⟩
  have S := S.call r
  have hle := r.le
  clear r
  rw [rise_told hR] at rt
  have hG := hG.mono hle
  have hX := hX.mono hle
  kspl_open go
  refine nw_tuple S (.cons (.int _ _) (.cons (.int _ _) (.cons (.int _ _) .nil))) fun aT1 s₁ K₂ hle₂ S rT1 => ?_
  have hle := hle.trans hle₂
  have hG := hG.mono hle₂
  have hX := hX.mono hle₂
  have rt := rt.mono hle₂
  clear hle₂
  kspl_open go
  refine b_mul S (IntMulOk.of_left (by decide +kernel)) fun t s₁ S => ?_
  kspl_open go
  refine b_mul S (IntMulOk.of_left (by decide +kernel)) fun t s₁ S => ?_
  kspl_open go
  refine nw_tuple S (.cons (.int _ _) (.cons (.int _ _) (.cons (.int _ _) .nil))) fun aT2 s₁ K₃ hle₂ S rT2 => ?_
  have hle := hle.trans hle₂
  have hG := hG.mono hle₂
  have hX := hX.mono hle₂
  have rt := rt.mono hle₂
  have rT1 := rT1.mono hle₂
  clear hle₂
  kspl_open go
  refine nw_list S fun aC s₁ S => ?_
  kspl_open go
  have hle0 : Le K K₃ := hle
  have eA : ((r1.length : Int) + (great r1 : Int)) = ((r1.length + great r1 : Nat) : Int) := by exact om143
  have eB : ((r0.length : Int) + (great r0 : Int)) = ((r0.length + great r0 : Nat) : Int) := by exact om143
  have eC : (2 : Int) * (r1.length : Int) = ((2 * r1.length : Nat) : Int) := by exact om292
  have eD : (2 : Int) * (r0.length : Int) = ((2 * r0.length : Nat) : Int) := by exact om292
  rw [eA, eB] at rT1
  rw [eC, eD] at rT2
  refine ite_b (fun hz => ?_) fun hz => ?_
  · have hz : great r1 ≠ 0 := by simp at hz; exact om158 hz
    kspl_open go
    refine' sl_any S (St.listAt S ?zm) .none (.int _ _) ?_ ?_
    case zm => kspl_open me
    · simp
    intro aB s₁ S
    simp only [Option.elim] at S
    rw [show ((([Value.ref aT1, Value.ref aT2]).drop 0).take (clipAt ([Value.ref aT1, Value.ref aT2]).length 2 - 0)) = [Value.ref aT1, Value.ref aT2] from rfl] at S
    refine St.frzL S (S.out fun a ha => by obtain ⟨Q, hQ⟩ := hmu a ha; exact ⟨Q, List.mem_cons_of_mem _ hQ⟩) (.cons rT1 (.cons rT2 .nil)) fun K₄ hle₂ rc S => ?_
    have S := S.drop1
    kspl_open sv
    have hle := hle.trans hle₂
    refine hNn _ _ ?_
    kspl_open bk
    refine rise_tail S hL he hT hmu (hX.mono hle₂) (hG.mono hle₂) (hB.mono hle) hA hgb (hLd.mono hle) hf2 hsm hmz hR (rt.mono hle₂) ?_ (wlow.mono hle) (whigh.mono hle) fun g' s' hg' S => hN0 _ _ (h g' s' hg' (S.shrink hK0 hle))
    unfold colsL
    rw [if_neg hz]
    exact rc.rd
  · have hz : great r1 = 0 := by simp at hz; exact om152 hz
    kspl_open go
    refine' sl_any S (St.listAt S ?zm) .none (.int _ _) ?_ ?_
    case zm => kspl_open me
    · simp
    intro aB s₁ S
    simp only [Option.elim] at S
    rw [show ((([Value.ref aT1, Value.ref aT2]).drop 0).take (clipAt ([Value.ref aT1, Value.ref aT2]).length 1 - 0)) = [Value.ref aT1] from rfl] at S
    refine St.frzL S (S.out fun a ha => by obtain ⟨Q, hQ⟩ := hmu a ha; exact ⟨Q, List.mem_cons_of_mem _ hQ⟩) (.cons rT1 .nil) fun K₄ hle₂ rc S => ?_
    have S := S.drop1
    kspl_open sv
    have hle := hle.trans hle₂
    refine hNn _ _ ?_
    kspl_open bk
    refine rise_tail S hL he hT hmu (hX.mono hle₂) (hG.mono hle₂) (hB.mono hle) hA hgb (hLd.mono hle) hf2 hsm hmz hR (rt.mono hle₂) ?_ (wlow.mono hle) (whigh.mono hle) fun g' s' hg' S => hN0 _ _ (h g' s' hg' (S.shrink hK0 hle))
    unfold colsL
    rw [if_pos hz]
    exact rc.rd
end

section
abbrev lawFd : Fd := fdOf (topS 26)
abbrev lawN : List Str := ["script", "draws", "word", "order", "rulers", "sizes", "renamings", "kinds", "first", "size", "great", "name", "told"]
abbrev lawG : List Str := ["len", "range", "sorted", "_law_renaming", "_law_kinds", "Headers", "Int2AP", "_law_due"]
abbrev lawC (L : Nat) : List (Str × Addr) := [("words", L + 6), ("numbers", L + 5), ("leads", L + 4), ("due", L + 3), ("book", L + 2), ("many", L + 1)]
theorem law_scope : ScopeOkC lawFd.S lawN lawG := by
  refine ⟨by rfl, by decide, by decide +kernel, by decide +kernel, by exact ⟨rfl, rfl⟩⟩
section
set_option maxRecDepth 100000
end
-- the leads' texts
def pieceS (w : Str) : Str := if w == Txt.upper w then " \t" else "\t"
def pieceC (w : Str) : List Nat := if w == Txt.upper w then [32, 9] else [9]
theorem piece_cps (w : Str) : (pieceS w).cps = (pieceC w).toArray := by
  unfold pieceS pieceC
  split <;> rfl
theorem strJoin_cps : ∀ l : List Str, (Str.join "" (l.map pieceS)).cps.toList = l.flatMap pieceC
  | [] => rfl
  | [x] => by
    show (pieceS x).cps.toList = pieceC x ++ []
    rw [piece_cps]; simp
  | x :: y :: r => by
    have ih := strJoin_cps (y :: r)
    show ((pieceS x).cps ++ (Str.ofString "").cps ++ (Str.join "" ((y :: r).map pieceS)).cps).toList = pieceC x ++ (y :: r).flatMap pieceC
    rw [Array.toList_append, Array.toList_append, ih, piece_cps]
    have : (Str.ofString "").cps.toList = [] := rfl
    rw [this]; simp
theorem join_text (l : List Str) : Txt.join "" (l.map pieceS) = ⟨(l.flatMap pieceC).toArray⟩ := by
  show Builtin.Str.glued _ _ = _
  rw [StrLaws.glued_eq_join]
  have := strJoin_cps l
  cases h : Str.join "" (l.map pieceS) with
  | mk cps =>
    rw [h] at this
    have this : cps.toList = _ := this
    rw [← this]
theorem ws_piece (f g : Nat) (hg : g ≤ f) (w : Str) : (pieceC w).foldl wsStep (leadW f g) = leadW (f + 1) (g + if (w == Txt.upper w) = true then 1 else 0) := by
  unfold pieceC
  by_cases hw : (w == Txt.upper w) = true
  · rw [if_pos hw, if_pos hw]
    show wsStep (wsStep (leadW f g) 32) 9 = _
    by_cases h0 : g = 0
    · by_cases h1 : f = 0
      · subst h0; subst h1; rfl
      · subst h0
        simp [leadW, wsStep, wsCount, h1]
    · simp [leadW, wsStep, wsCount, h0]
      exact om299
  · rw [if_neg hw, if_neg hw]
    show wsStep (leadW f g) 9 = _
    by_cases h0 : g = 0
    · by_cases h1 : f = 0
      · subst h0; subst h1; rfl
      · subst h0
        simp [leadW, wsStep, wsCount, h1]
    · simp [leadW, wsStep, wsCount, h0]
      exact om298 hg
theorem ws_row : ∀ (row : List Str) (f g : Nat), g ≤ f → (row.flatMap pieceC).foldl wsStep (leadW f g) = leadW (f + row.length) (g + great row)
  | [], f, g, _ => rfl
  | w :: r, f, g, h => by
    rw [List.flatMap_cons, List.foldl_append, ws_piece f g h w, ws_row r _ _ (by split <;> omega)]
    have : great (w :: r) = great r + if (w == Txt.upper w) = true then 1 else 0 := by
      unfold great
      by_cases hx : (w == Txt.upper w) = true
      · rw [if_pos hx]; simp [List.filter_cons, hx]
      · rw [if_neg hx]; simp [List.filter_cons, hx]
    rw [this, List.length_cons]
    congr 1 <;> omega
theorem wsFold_row (row : List Str) : wsFold (row.flatMap pieceC) = leadW row.length (great row) := by
  have := ws_row row 0 0 (Nat.le_refl _)
  rw [Nat.zero_add, Nat.zero_add] at this
  exact this
theorem piece_len (row : List Str) : (row.flatMap pieceC).length ≤ 2 * row.length := by
  induction row with
  | nil => exact Nat.le_refl _
  | cons w r ih =>
    rw [List.flatMap_cons, List.length_append, List.length_cons]
    have : (pieceC w).length ≤ 2 := by unfold pieceC; split <;> simp
    exact om297 ih this
theorem piece_ch (row : List Str) : ∀ ch ∈ row.flatMap pieceC, ch = 32 ∨ ch = 9 := by
  intro ch hc
  refine notnot fun hGoal => ?_
  obtain ⟨w, _, hw⟩ := List.mem_flatMap.mp hc
  refine hGoal ?_
  clear hGoal
  unfold pieceC at hw
  split at hw <;> simp at hw <;> omega
theorem rd_strs {K : KP} : ∀ {vs : List Value} {ys : List Str}, RdAll K vs (ys.map PyData.str) → ∃ l : List (Str × Tok), vs = strValues l ∧ l.map (·.1) = ys
  | [], [], _ => ⟨[], rfl, rfl⟩
  | _ :: _, y :: r, .cons h t => by
    obtain ⟨u, rfl⟩ := h.strE
    refine notnot fun hGoal => ?_
    obtain ⟨l, e1, e2⟩ := rd_strs t
    refine hGoal ?_
    clear hGoal
    exact ⟨(y, u) :: l, by rw [e1]; rfl, by rw [← e2]; rfl⟩
theorem joinOk_pieces (row : List Str) (h : row.length ≤ 64) : JoinOk "" (row.map pieceS) = true := by
  unfold JoinOk
  rw [StrLaws.joinTotal]
  have : ((row.map pieceS).map (·.length)).sum ≤ 2 * row.length := by
    clear h
    induction row with
    | nil => exact Nat.le_refl _
    | cons w r ih =>
      rw [List.map_cons, List.map_cons, List.sum_cons, List.length_cons]
      have : (pieceS w).length ≤ 2 := by
        unfold pieceS
        split <;> decide
      exact om297 ih this
  rw [List.length_map, show (Str.ofString "").length = 0 from rfl, Nat.mul_zero, Nat.add_zero]
  unfold Builtin.Str.tooLong
  rw [Bool.not_eq_true']
  exact decide_eq_false (Nat.not_lt_of_le (Nat.le_trans this (Nat.le_trans (Nat.mul_le_mul_left 2 h) (by decide))))
theorem c_joinL {prog : Program} {w : World} {A : Around} {E : Value → Shared → Prop} {c : Cx} {g : Gs} {K : KP} {own : Own} {s : Shared} {a : Addr} {x : Str} {t : Tok} {vs : List Value} {ys : List Str} {Q : Value → Shared → Prop} (S : St c g K own s) (ha : (a, LpO vs) ∈ own) (hr : RdAll K vs (ys.map PyData.str)) (hok : JoinOk x ys = true) (h : ∀ t s', St c g K own s' → Q (.str (Txt.join x ys) t) s') :
    wpAny (model prog w) A (call (.builtin "str.join") [.str x t, .ref a]) Q E s := by
  refine notnot fun hGoal => ?_
  obtain ⟨l, rfl, rfl⟩ := rd_strs hr
  refine hGoal ?_
  clear hGoal
  exact SC.join (l := l) (S.listAt ha) rfl hok fun t' k => h _ _ (S.toks _)
end

section
theorem swaps_cell {env : Env} {L : Addr} {names gn : List Str} {elt iter : Expr} {x y : Str} {px py : Pos} {l : Nat} {ifs : List Expr} {scope : Scope} {pos : Pos} (he : EnvF env L names gn) (hy : env.kindOf y = some .cell) :
    swapsWith (.ListComp elt [⟨.Name x px, iter, ifs, 0⟩] scope pos) (some (.Name y py)) l env = pure false := by
  show (pure (env.blockKind == .function && env.kindOf y == some .local && py.line == pos.line && !(scope.names.any fun (n, k) => n == y && (k == .local || k == .cell))) : Sem Bool) = pure false
  rw [hy]
  have : (some NameKind.cell == some NameKind.local) = false := by rfl
  rw [this, Bool.and_false, Bool.false_and, Bool.false_and]
def gJ (rows : List (List Str)) (j : Nat) (K : KP) (ys : List Value) : Prop := ys.length = j ∧ ∀ (i : Nat) u row, ys[i]? = some u → rows[i]? = some row → WsO K u (leadW row.length (great row))
theorem gJ_snoc {rows : List (List Str)} {j : Nat} {K K' : KP} {ys : List Value} {row : List Str} {v : Value} (hle : Le K K') (h : gJ rows j K ys) (hrj : rows[j]? = some row) (hW : WsO K' v (leadW row.length (great row))) : gJ rows (j + 1) K' (ys ++ [v]) := by
  obtain ⟨hyl, hys⟩ := h
  refine ⟨by rw [List.length_append, List.length_singleton, hyl], fun i u row' hu hr' => ?_⟩
  rcases Nat.lt_trichotomy i j with hi | hi | hi
  · rw [List.getElem?_append_left (by exact om21 hyl hi)] at hu
    exact (hys i u row' hu hr').mono hle
  · subst hi
    rw [hrj] at hr'
    rw [List.getElem?_append_right (by exact om20 hyl), hyl, Nat.sub_self] at hu
    cases hu
    cases hr'
    exact hW
  · rw [List.getElem?_eq_none (by rw [List.length_append, List.length_singleton]; exact om310 hyl hi)] at hu
    exact nomatch hu
theorem gJ_leads {rows : List (List Str)} {K : KP} {D : Addr} {o : Obj} {ys : List Value} (ho : LpO ys o) (h : gJ rows rows.length K ys) : Leads (K.add D o) (.ref D) (rows.map fun r => (r.length, great r)) := by
  refine ⟨D, o, ys, rfl, .inr ⟨rfl, rfl⟩, ho, by rw [List.length_map, h.1], fun i u p hu hp => ?_⟩
  rw [List.getElem?_map] at hp
  obtain ⟨row, hr1, rfl⟩ := Option.map_eq_some_iff.mp hp
  exact (h.2 i u row hu hr1).mono (le_add _ _ _)
set_option maxRecDepth 100000 in
set_option maxHeartbeats 4000000 in
theorem law_G {prog : Program} {w : World} {A : Around} {c : Cx} {g : Gs} {K : KP} {own : Own} {s₁ : Shared} {env : Env} {L : Addr} {k many : Nat} {sc dr wo or' ru si re ki fi sz gr na : Option Value} {vT vD : Value} {vB vl vn vw : Option Value} {tm : Tok} {rows : List (List Str)} {Pp : Params} {Nq : Flow → Shared → Prop}
    (S : St c g K ((L, FrO lawN [sc, dr, wo, or', ru, si, re, ki, fi, sz, gr, na, some vT]) :: (L + 6, CellO vw) :: (L + 5, CellO vn) :: (L + 4, CellO vl) :: (L + 3, CellO (some vD)) :: (L + 2, CellO vB) :: (L + 1, CellO (some (.int (many : Nat) tm))) :: own) s₁)
    (hL : c.h0.objs.size ≤ L) (he : EnvF env L lawN lawG) (hcs : env.cells = lawC L) (hsc : env.scope = lawFd.S) (hT : (106, TabO) ∈ own) (hmu : MuIn c.mu own) (hX : InK (KFh Pp) K) (hG : GB K gl bl) (hB : BMK K) (hA : AOk A (k + 4)) (hgb : AllBare g)
    (rT : Rd K vT (dDue rows)) (rD : Rd K vD (dDue rows)) (hrows : rows.length = many + 1) (hmany : many < 10) (hm2 : 2 < many)
    (hw : ∀ r ∈ rows, r.length ≤ 64 ∧ ∀ w ∈ r, (Txt.upper w).cps.size < 100)
    (hrise : ∀ i r0 r1, i < 3 → rows[i]? = some r0 → rows[i + 1]? = some r1 → Rise r0.length (great r0) r1.length (great r1))
    (hcomp : ∀ i r0 r1, i < 3 → rows[i]? = some r0 → rows[many - i]? = some r1 → r1.length = r0.length ∧ great r1 = great r0)
    (h : ∀ g' s', AllBare g' → St c g' K own s' → Nq (.ret (.bool true)) s') :
    wpAny (model prog w) A (execs (lawFd.B.drop 17) env) Nq (fun _ _ => False) s₁ := by
  have hK0 := S.le
  have hcm : CelF env "many" (L + 1) := ⟨.inl (by unfold Env.kindOf; rw [hsc]; rfl), by rw [hcs]; rfl, by decide, by decide⟩
  have hcd : CelF env "due" (L + 3) := ⟨.inl (by unfold Env.kindOf; rw [hsc]; rfl), by rw [hcs]; rfl, by decide, by decide⟩
  have hcl : CelF env "leads" (L + 4) := ⟨.inl (by unfold Env.kindOf; rw [hsc]; rfl), by rw [hcs]; rfl, by decide, by decide⟩
  have hkl : env.kindOf "leads" = some .cell := by unfold Env.kindOf; rw [hsc]; rfl
  kspl_open gv
  kspl_open go
  refine x_set ?_ (swaps_cell he hkl)
  refine ev_comp (cl := []) (closureFor_none (by decide)) rfl (by decide) ?_
  kspl_open go
  refine it_rd S hA.handled rT fun I s₁ S W => ?_
  refine cmp_k (cgn := ["Whitespace"]) (gJ rows) S W.map (by decide) rfl (comp_env he rfl (by decide) (by decide +kernel)) (by show _ ≤ 2 ^ 24; exact om313 hrows hmany) ⟨rfl, fun i u row hu => by simp at hu⟩ ?_ (fun _ _ _ h => Nat.le_of_eq h.1) ?_
  · intro j K₂ ys s₁ PI2 C D E' Nn Nf hj hle₂ hys he' hC hNl hNf row xv hrj rd S
    have he := he'
    have hG := hG.mono hle₂
    have hX := hX.mono hle₂
    have rd := rd.mono hle₂
    have hrw := hw row (List.mem_of_getElem? hrj)
    have hr64 := hrw.1
    refine no_ifs ?_
    rw [if_pos rfl]
    kspl_open go
    refine callWith_K (hX.in_ S) (k_ws Pp) ?_
    kspl_open go
    refine GM.join ?_
    kspl_open go
    refine ev_comp (cl := []) (closureFor_none (by decide)) rfl (by decide) ?_
    kspl_open go
    refine it_rd S hA.handled rd fun I2 s₁ S W => ?_
    refine cmp_map (cgn := []) (row.map fun x => PyData.str (pieceS x)) S W.txt (by decide) rfl (comp_env he rfl (by decide) (fun _ h => nomatch h)) (by show _ ≤ 2 ^ 24; exact om312 hr64) (by rw [List.length_map]) ?_ ?_
    · intro j' K₃ ys' s₁ PI3 C' D' E'' Nn hj' hle₃ he'' hC' hNl x tx hxj S
      have he := he''
      have hsm := hrw.2 x (List.mem_of_getElem? hxj)
      kspl_open go
      refine GM.upper ?_
      kspl_open go
      refine c_upper S (up_fits hsm) fun t1 s₁ S => ?_
      kspl_open go
      refine PyProof.Rows.eq_str ?_
      kspl_open go
      refine ite_b (fun hb => ?_) fun hb => ?_
      · kspl_open go
        exact hNl _ _ _ _ _ ((gm hxj).trans (congrArg (fun z => some (PyData.str z)) (if_pos hb))) (Le.refl _) (.str _ _) S
      · kspl_open go
        exact hNl _ _ _ _ _ ((gm hxj).trans (congrArg (fun z => some (PyData.str z)) (if_neg (by rw [hb]; exact Bool.false_ne_true)))) (Le.refl _) (.str _ _) S
    intro K₃ ys' s₁ D' hle₃ hys' S
    have hG := hG.mono hle₃
    have hX := hX.mono hle₃
    kspl_open go
    refine' c_joinL S ?zm (by rw [List.map_map]; exact hys') (joinOk_pieces row hr64) ?_
    case zm => kspl_open me
    clear S
    intro t s₁ S
    have S := S.drop1
    clear hys'
    rw [join_text]
    kspl_open go
    have hpl := piece_len row
    refine ⟨hX.in_ S, ws_spec (k := k + 2) hX hG S.kept hA (piece_ch row) (by exact om311 hr64 hpl) fun v K' s₁ rr hW => ?_⟩
    have S := S.call rr
    have hle := rr.le
    clear rr
    rw [wsFold_row] at hW
    kspl_open go
    exact hNl _ _ _ _ (hle₃.trans hle) (gJ_snoc (hle₃.trans hle) hys hrj hW) S
  intro K₂ ys s₁ D hle₂ hys S
  have hmu2 : MuIn c.mu ((L + 6, CellO vw) :: (L + 5, CellO vn) :: (L + 4, CellO vl) :: (L + 3, CellO (some vD)) :: (L + 2, CellO vB) :: (L + 1, CellO (some (.int (many : Nat) tm))) :: own) := fun a ha => by
    obtain ⟨Q, hQ⟩ := hmu a ha
    exact ⟨Q, by simp only [List.mem_cons]; exact .inr (.inr (.inr (.inr (.inr (.inr hQ)))))⟩
  refine St.frz S (S.out hmu2) fun o ho S => ?_
  have hle := hle₂.trans (le_add K₂ D o)
  have hLd := gJ_leads (D := D) ho hys
  clear hys ho
  generalize K₂.add D o = K₃ at *
  have hG := hG.mono hle
  have hX := hX.mono hle
  have hB := hB.mono hle
  have rD := rD.mono hle
  have hc := hcl
  have hk := hkl
  kspl_open stc
  clear hc hk
  kspl_open go
  refine ev_comp (cl := [("many", L + 1), ("leads", L + 4), ("due", L + 3)]) ?_ rfl (by decide) ?_
  · rw [closureFor_of (fun y hy hf => ?_), hcs]
    · rfl
    · rw [hcs]
      have : y ∈ [((".0" : Str), NameKind.local), ("k", .local), ("_law_rise", .globalImplicit), ("due", .free), ("leads", .free), ("many", .free)] := hy
      simp only [List.mem_cons, List.not_mem_nil, or_false] at this
      rcases this with rfl | rfl | rfl | rfl | rfl | rfl
      · cases hf
      · cases hf
      · cases hf
      · exact ⟨_, rfl⟩
      · exact ⟨_, rfl⟩
      · exact ⟨_, rfl⟩
  kspl_open go
  refine c_range S fun r s₁ K₄ hle₃ S hr => ?_
  refine it_rng (n := 3) S hA.handled hr rfl (by decide) fun I s₁ S W => ?_
  have hG := hG.mono hle₃
  have hX := hX.mono hle₃
  have hB := hB.mono hle₃
  have rD := rD.mono hle₃
  have hLd := hLd.mono hle₃
  refine cmp_mapG (cgn := ["_law_rise"]) AllBare (List.replicate 3 (PyData.bool true)) S W (by decide) rfl (comp_env he rfl (by decide) (by decide +kernel)) (by show 3 ≤ 2 ^ 24; decide) rfl hgb ?_ ?_
  · intro j g' K₅ ys s₁ PI2 C D' E' Nn hj hgb' hle₄ he' hNl tv S
    have hG := hG.mono hle₄
    have hX := hX.mono hle₄
    have hB := hB.mono hle₄
    have rD := rD.mono hle₄
    have hLd := hLd.mono hle₄
    have hcd := he'.cel hcd rfl rfl
    have hcl := he'.cel hcl rfl rfl
    have hcm := he'.cel hcm rfl rfl
    have he := he'
    kspl_open go
    refine callWith_K (hX.in_ S) (k_rise Pp) ?_
    kspl_open go
    have hc := hcd
    kspl_open cel
    clear hc
    kspl_open go
    have hc := hcl
    kspl_open cel
    clear hc
    kspl_open go
    have hc := hcm
    kspl_open cel
    clear hc
    kspl_open go
    refine get_C (l := rows) (i := j) (by exact om306 hrows hm2 hj) fun r0 h0 => ?_
    refine get_C (l := rows) (i := j + 1) (by exact om305 hrows hm2 hj) fun r1 h1 => ?_
    refine get_C (l := rows) (i := many - j) (by exact om304 hrows) fun r2 h2 => ?_
    have hc12 := hcomp j r0 r2 hj h0 h2
    refine ⟨hX.in_ S, wpAny_call (rise_code (k := k + 1) (fs := rows.map fun r => (r.length, great r)) S (by simp [hT]) (fun a ha => ?_) hX hG hB hA hgb' rD hLd h0 h1 (gm h0) (gm h1) (by rw [gm h2, hc12.1, hc12.2]) (by exact om303 hm2 hj) (by exact om302 hmany)
      (hrise j r0 r1 hj h0 h1) (hw r0 (List.mem_of_getElem? h0)).2 (hw r1 (List.mem_of_getElem? h1)).2 fun g' s₁ hgb2 S => ?_)⟩
    · obtain ⟨Q, hQ⟩ := hmu a ha
      exact ⟨Q, by simp [hQ]⟩
    kspl_open go
    exact hNl _ _ _ _ _ _ (by rw [List.getElem?_replicate, if_pos hj]) hgb2 (Le.refl _) (.bool _) S
  intro g' K₅ ys s₁ D2 hgb' hle₄ hys S
  have hmu3 : MuIn c.mu ((L + 6, CellO vw) :: (L + 5, CellO vn) :: (L + 4, CellO (some (.ref D))) :: (L + 3, CellO (some vD)) :: (L + 2, CellO vB) :: (L + 1, CellO (some (.int (many : Nat) tm))) :: own) := fun a ha => by
    obtain ⟨Q, hQ⟩ := hmu a ha
    exact ⟨Q, by simp only [List.mem_cons]; exact .inr (.inr (.inr (.inr (.inr (.inr hQ)))))⟩
  refine St.frzL S (S.out hmu3) hys fun K₆ hle₅ rc S => ?_
  have rr : Rd K₆ (.ref D2) (.list [.bool true, .bool true, .bool true]) := rc.rd
  obtain ⟨as, r1⟩ := rr.reads S.kept
  refine SeqAt.notIn_list_reads r1 (.bool false) (by rfl) (by rfl) (by have := hA.units; show A.units + 1 + 0 < 9900; exact om300 this) ?_
  rw [show (!([PyData.bool true, PyData.bool true, PyData.bool true] : List PyData).any fun y => PyData.eqv y (.bool false)) = true from by decide]
  kspl_open go
  exact h _ _ hgb' (S.shrink hK0 ((hle.trans hle₃).trans (hle₄.trans hle₅))).drop0.drop0.drop0.drop0.drop0.drop0.drop0
end

section
section
set_option maxRecDepth 100000
end
/-- the name of a size in the book -/
def cx (i : Nat) : Str := Str.ofString "C" ++ Txt.item (Str.ofString "abcdefg") ((i : Nat) : Int)
theorem cx_facts : ∀ i : Nat, i < 7 → Rx.quietFor Rx.nameCode (Txt.lower (cx i)) = true ∧ (Txt.lower (cx i)).cps.size < 100 := by decide +kernel
theorem eqv_strs : ∀ l : List Str, PyData.eqvAll (l.map PyData.str) (l.map PyData.str) = true
  | [] => rfl
  | x :: r => by simp [PyData.eqvAll, PyData.eqv, eqv_strs r]
theorem eqv_dues : ∀ l : List (List Str), PyData.eqvAll (l.map fun r => .list (r.map PyData.str)) (l.map fun r => .list (r.map PyData.str)) = true
  | [] => rfl
  | x :: r => by simp [PyData.eqvAll, PyData.eqv, eqv_strs x, eqv_dues r]
theorem dues_shaped (l : List (List Str)) (hok : ∀ r ∈ l, ∀ w ∈ r, PyData.strOk w = true) : SeqAt.shaped (dDue l) = true := by
  have h1 : PyData.canLayAll0 (l.map fun r => PyData.list (r.map PyData.str)) = true := canLay_map _ l fun x _ => by
    rw [PyData.canLay0]
    exact canLay_map _ x fun y hy => by rw [PyData.canLay0]; exact hok x (by assumption) y hy
  have h2 : PyData.depthAll (l.map fun r => PyData.list (r.map PyData.str)) ≤ 2 := depth_map _ 2 l fun x _ => by
    have : PyData.depthAll (x.map PyData.str) ≤ 1 := depth_map _ 1 x fun _ _ => by simp [PyData.depth]
    rw [PyData.depth]
    exact om321 this
  unfold SeqAt.shaped dDue
  rw [PyData.canLay0, PyData.depth, h1, Bool.true_and]
  exact decide_eq_true (by exact om320 h2)
set_option maxRecDepth 100000 in
set_option maxHeartbeats 4000000 in
theorem law_F {prog : Program} {w : World} {A : Around} {c : Cx} {g : Gs} {K : KP} {own : Own} {s₁ : Shared} {env : Env} {L : Addr} {k many : Nat} {sc dr wo or' ru si re fi sz gr na : Option Value} {vK vB : Value} {vn vw : Option Value} {tm : Tok} {ks : List P.Kind} {aL : Addr} {hr : List Row2} {Pp : Params} {Nq : Flow → Shared → Prop}
    (S : St c g K ((L, FrO lawN [sc, dr, wo, or', ru, si, re, some vK, fi, sz, gr, na, none]) :: (L + 6, CellO vw) :: (L + 5, CellO vn) :: (L + 4, CellO none) :: (L + 3, CellO none) :: (L + 2, CellO (some vB)) :: (L + 1, CellO (some (.int (many : Nat) tm))) :: own) s₁)
    (hL : c.h0.objs.size ≤ L) (he : EnvF env L lawN lawG) (hcs : env.cells = lawC L) (hsc : env.scope = lawFd.S) (hT : (106, TabO) ∈ own) (hmu : MuIn c.mu own) (hX : InK (KFh Pp) K) (hG : GB K gl bl) (hB : BMK K) (hA : AOk A (k + 4)) (hgb : AllBare g)
    (rK : Rd K vK (.list (ks.map dKind))) (hV : HdO K vB aL) (hR : Rd K (.ref aL) (.list (hr.map dRow2))) (hmany : many ≤ 6) (hm2 : 2 < many)
    (hks : ∀ k ∈ ks, k.1 < 64 ∧ k.2.1 ≤ many) (hkl : ks.length ≤ 64) (hrl : hr.length ≤ 200) (hrs : ∀ r ∈ hr, (Txt.lower r.1).cps.size < 100)
    (hrow : ∀ i, i ≤ many → rowsOf hr (Txt.lower (cx i)) = (dueL ks many).getD i [])
    (hw : ∀ r ∈ dueL ks many, r.length ≤ 64 ∧ ∀ w ∈ r, (Txt.upper w).cps.size < 100)
    (hok : ∀ r ∈ dueL ks many, ∀ w ∈ r, PyData.strOk w = true)
    (hrise : ∀ i r0 r1, i < 3 → (dueL ks many)[i]? = some r0 → (dueL ks many)[i + 1]? = some r1 → Rise r0.length (great r0) r1.length (great r1))
    (hcomp : ∀ i r0 r1, i < 3 → (dueL ks many)[i]? = some r0 → (dueL ks many)[many - i]? = some r1 → r1.length = r0.length ∧ great r1 = great r0)
    (h : ∀ g' s', AllBare g' → St c g' K own s' → Nq (.ret (.bool true)) s') :
    wpAny (model prog w) A (execs (lawFd.B.drop 14) env) Nq (fun _ _ => False) s₁ := by
  have hK0 := S.le
  have hdl : (dueL ks many).length = many + 1 := by unfold dueL; rw [due_len]; simp
  have hcm : CelF env "many" (L + 1) := ⟨.inl (by unfold Env.kindOf; rw [hsc]; rfl), by rw [hcs]; rfl, by decide, by decide⟩
  have hcb : CelF env "book" (L + 2) := ⟨.inl (by unfold Env.kindOf; rw [hsc]; rfl), by rw [hcs]; rfl, by decide, by decide⟩
  have hcd : CelF env "due" (L + 3) := ⟨.inl (by unfold Env.kindOf; rw [hsc]; rfl), by rw [hcs]; rfl, by decide, by decide⟩
  have hkd : env.kindOf "due" = some .cell := by unfold Env.kindOf; rw [hsc]; rfl
  kspl_open gv
  kspl_open go
  refine callWith_K (hX.in_ S) (k_due Pp) ?_
  kspl_open go
  have hc := hcm
  kspl_open cel
  clear hc
  kspl_open go
  refine ⟨hX.in_ S, due_spec (k := k + 3) (f_due hX) hG S.kept hA rK hmany hks hkl fun vD K₁ s₁ rr rD => ?_⟩
  have S := S.call rr
  have hle := rr.le
  clear rr
  have hG := hG.mono hle
  have hX := hX.mono hle
  have hB := hB.mono hle
  have hV := hV.mono hle
  have hR := hR.mono hle
  have hc := hcd
  have hk := hkd
  kspl_open stc
  clear hc hk
  kspl_open go
  refine x_comp (cl := [("book", L + 2)]) (swaps_comp he (he.all _ (by decide)).1 rfl (by decide)) ?_ rfl (by decide) ?_
  · rw [closureFor_of (fun y hy hf => ?_), hcs]
    · rfl
    · rw [hcs]
      have : y ∈ [((".0" : Str), NameKind.local), ("k", .local), ("book", .free)] := hy
      simp only [List.mem_cons, List.not_mem_nil, or_false] at this
      rcases this with rfl | rfl | rfl
      · cases hf
      · cases hf
      · exact ⟨_, rfl⟩
  kspl_open go
  have hc := hcm
  kspl_open cel
  clear hc
  kspl_open go
  refine c_range S fun r s₁ K₂ hle₂ S hr' => ?_
  refine it_rng (n := many + 1) S hA.handled hr' rfl (Nat.lt_of_le_of_lt (Nat.succ_le_succ hmany) (by decide)) fun I s₁ S W => ?_
  kspl_open bk
  refine cmp_mapU (cgn := []) (fun g' => g' = g) ((dueL ks many).map fun r => PyData.list (r.map PyData.str)) S he W (by decide) rfl (comp_env he rfl (by decide) (fun _ h => nomatch h)) (by show many + 1 ≤ 2 ^ 24; exact om173 hmany) (by rw [List.length_map, hdl]) rfl (fun _ => by kspl_open up) ?_ ?_
  · intro i g' K₃ ys s₁ PI C D E' Nn hi hg' hle₃ he' hNl tv S
    rw [hg'] at S
    have hcb := he'.cel hcb rfl rfl
    have he := he'
    kspl_open go
    have hc := hcb
    kspl_open cel
    clear hc
    have hG := (hG.mono hle₂).mono hle₃
    have hX := (hX.mono hle₂).mono hle₃
    have hV := (hV.mono hle₂).mono hle₃
    have hR := (hR.mono hle₂).mono hle₃
    refine hd_meth S hX hV (p_hall Pp) (by decide) ?_
    kspl_open go
    refine callWith_K (hX.in_ S) (k_hall Pp) ?_
    kspl_open go
    refine sub_str S (by exact om1) (by show _ < ((7 : Nat) : Int); exact om319 hmany hi) (by exact om318 hmany hi) fun t s₁ S => ?_
    refine b_adds S (by show 1 + 1 ≤ 2 ^ 24; decide) fun t s₁ S => ?_
    kspl_open go
    obtain ⟨q1, q2⟩ := cx_facts i (by exact om317 hmany hi)
    refine ⟨hX.in_ S, hall_spec (x := cx i) (k := k + 2) hX hG S.kept hA hV hR hrl q1 q2 hrs fun r K' s₁ rr rd => ?_⟩
    have S := S.call rr
    have hle := rr.le
    clear rr
    kspl_open go
    rw [hrow i (by exact om316 hi)] at rd
    have e : (dueL ks many)[i]? = some ((dueL ks many).getD i []) := by
      rw [List.getD_eq_getElem?_getD, List.getElem?_eq_getElem (by exact om315 hdl hi)]; rfl
    exact hNl _ _ _ _ _ _ (gm e) rfl hle rd S
  intro g' K₃ ys s₁ D hg' hle₃ hys S
  rw [hg'] at S
  have hmu2 : MuIn c.mu ((L + 6, CellO vw) :: (L + 5, CellO vn) :: (L + 4, CellO none) :: (L + 3, CellO (some vD)) :: (L + 2, CellO (some vB)) :: (L + 1, CellO (some (.int (many : Nat) tm))) :: own) := fun a ha => by
    obtain ⟨Q, hQ⟩ := hmu a ha
    exact ⟨Q, by simp only [List.mem_cons]; exact .inr (.inr (.inr (.inr (.inr (.inr hQ)))))⟩
  refine St.frzL S (S.out hmu2) hys fun K₄ hle4' rc S => ?_
  have rT : Rd K₄ (.ref D) (dDue (dueL ks many)) := rc.rd
  have hle4 := (hle₂.trans hle₃).trans hle4'
  clear rc hys
  have rD := rD.mono hle4
  kspl_open go
  have hc := hcd
  kspl_open cel
  clear hc
  refine ne_rd S rT rD (dues_shaped _ hok) (dues_shaped _ hok) hA ?_
  rw [show PyData.eqv (dDue (dueL ks many)) (dDue (dueL ks many)) = true from by unfold dDue; rw [PyData.eqv]; exact eqv_dues _, Bool.not_true]
  kspl_open go
  rw [if_neg Bool.false_ne_true]
  kspl_open one
  refine hNn _ _ ?_
  kspl_open bk
  exact law_G S hL he hcs hsc hT hmu (hX.mono hle4) (hG.mono hle4) (hB.mono hle4) hA hgb rT rD hdl (by exact om127 hmany) hm2 hw hrise hcomp fun g' s' hg' S => h g' s' hg' (S.shrink hK0 (hle.trans hle4))
end

section
theorem st_mono {M : Model} {A : Around} {E : Value → Shared → Prop} {s : Shared} {c : Cx} {g : Gs} {K : KP} {ow : Own} {x : Str} {m : Sem Value} {Q : Value → Shared → Prop} {s₀ : Shared} (_S : St c g K ow s₀)
    (h1 : wpAny M A m (fun v s' => ∃ t, v = .str x t ∧ St c g K ow s') E s) (h2 : ∀ t s', St c g K ow s' → Q (.str x t) s') : wpAny M A m Q E s :=
  wpAny_mono h1 (fun v s' h => by obtain ⟨t, rfl, S⟩ := h; exact h2 t s' S) fun _ _ e => e
section
set_option maxRecDepth 100000
end
def nmS (k : P.Kind) : Str := if k.1 % 2 = 0 then Txt.lower (ap (32 + k.2.1)) else ap (32 + k.2.1)
def vlS (k : P.Kind) : Str := if k.2.2 = true then ap (64 + k.1) else Txt.lower (ap (64 + k.1))
def hdRows (ks : List P.Kind) : List Row2 := ks.map fun k => (nmS k, vlS k)
theorem ap_up (n : Nat) (h : n < 128) : (Txt.lower (ap n)).cps.size < 100 := by
  have : ∀ n : Nat, n < 128 → (Txt.lower (ap n)).cps.size < 100 := by decide +kernel
  exact this n h
theorem lo_fits {x : Str} (h : (Txt.lower x).cps.size < 100) : Builtin.Str.tooLong (Txt.lower x).length = false := by
  have : (Txt.lower x).length < 100 := h
  unfold Builtin.Str.tooLong
  exact decide_eq_false (Nat.not_lt_of_le (Nat.le_trans (Nat.le_of_lt this) (by decide)))
theorem nm_facts (k : P.Kind) (h : k.2.1 ≤ 6) : Rx.quietFor Rx.nameCode (nmS k) = true ∧ (nmS k).cps.size < 100 ∧ (Txt.lower (nmS k)).cps.size < 100 := by
  have h1 : ∀ z : Nat, z < 7 → (Rx.quietFor Rx.nameCode (ap (32 + z)) = true ∧ (ap (32 + z)).cps.size < 100 ∧ (Txt.lower (ap (32 + z))).cps.size < 100) ∧ Rx.quietFor Rx.nameCode (Txt.lower (ap (32 + z))) = true ∧ (Txt.lower (ap (32 + z))).cps.size < 100 ∧ (Txt.lower (Txt.lower (ap (32 + z)))).cps.size < 100 := by decide +kernel
  unfold nmS
  split
  · exact (h1 _ (by exact om332 h)).2
  · exact (h1 _ (by exact om332 h)).1
theorem vl_facts (k : P.Kind) (h : k.1 < 64) : Rx.quietFor Rx.valCode (vlS k) = true ∧ (vlS k).cps.size < 100 := by
  have h1 : ∀ z : Nat, z < 64 → (Rx.quietFor Rx.valCode (ap (64 + z)) = true ∧ (ap (64 + z)).cps.size < 100) ∧ Rx.quietFor Rx.valCode (Txt.lower (ap (64 + z))) = true ∧ (Txt.lower (ap (64 + z))).cps.size < 100 := by decide +kernel
  unfold vlS
  split
  · exact (h1 _ h).1
  · exact (h1 _ h).2
def eJ (sc dr or' ru si re vk : Option Value) (aL : Addr) (tl : Own) (rows : List Row2) (K : KP) (C : JC) : Prop := ∀ fi sz gr na wo lv, RdAll K lv (rows.map dRow2) → C [sc, dr, wo, or', ru, si, re, vk, fi, sz, gr, na, none] ((aL, LpO lv) :: tl)
theorem hdRows_succ {ks : List P.Kind} {i : Nat} {q : P.Kind} (h : ks[i]? = some q) : hdRows (ks.take (i + 1)) = hdRows (ks.take i) ++ [(nmS q, vlS q)] := by
  rw [List.take_add_one, h]; unfold hdRows; rw [List.map_append]; rfl
set_option maxRecDepth 100000 in
set_option maxHeartbeats 4000000 in
theorem law_E {prog : Program} {w : World} {A : Around} {c : Cx} {g : Gs} {K : KP} {own : Own} {s₁ : Shared} {env : Env} {L : Addr} {k many : Nat} {sc dr wo or' ru si re fi sz gr na : Option Value} {vK : Value} {vn vw : Option Value} {tm : Tok} {ks : List P.Kind} {Pp : Params} {Nq : Flow → Shared → Prop}
    (S : St c g K ((L, FrO lawN [sc, dr, wo, or', ru, si, re, some vK, fi, sz, gr, na, none]) :: (L + 6, CellO vw) :: (L + 5, CellO vn) :: (L + 4, CellO none) :: (L + 3, CellO none) :: (L + 2, CellO none) :: (L + 1, CellO (some (.int (many : Nat) tm))) :: own) s₁)
    (hL : c.h0.objs.size ≤ L) (he : EnvF env L lawN lawG) (hcs : env.cells = lawC L) (hsc : env.scope = lawFd.S) (hT : (106, TabO) ∈ own) (hmu : MuIn c.mu own) (hX : InK (KFh Pp) K) (hG : GB K gl bl) (hB : BMK K) (hA : AOk A (k + 4)) (hgb : AllBare g)
    (rK : Rd K vK (.list (ks.map dKind))) (hmany : many ≤ 6) (hm2 : 2 < many)
    (hks : ∀ k ∈ ks, k.1 < 64 ∧ k.2.1 ≤ many) (hkl : ks.length ≤ 64)
    (hrow : ∀ i, i ≤ many → rowsOf (hdRows ks) (Txt.lower (cx i)) = (dueL ks many).getD i [])
    (hw : ∀ r ∈ dueL ks many, r.length ≤ 64 ∧ ∀ w ∈ r, (Txt.upper w).cps.size < 100)
    (hok : ∀ r ∈ dueL ks many, ∀ w ∈ r, PyData.strOk w = true)
    (hrise : ∀ i r0 r1, i < 3 → (dueL ks many)[i]? = some r0 → (dueL ks many)[i + 1]? = some r1 → Rise r0.length (great r0) r1.length (great r1))
    (hcomp : ∀ i r0 r1, i < 3 → (dueL ks many)[i]? = some r0 → (dueL ks many)[many - i]? = some r1 → r1.length = r0.length ∧ great r1 = great r0)
    (h : ∀ g' s', AllBare g' → St c g' K own s' → Nq (.ret (.bool true)) s') :
    wpAny (model prog w) A (execs (lawFd.B.drop 12) env) Nq (fun _ _ => False) s₁ := by
  have hK0 := S.le
  have hcb : CelF env "book" (L + 2) := ⟨.inl (by unfold Env.kindOf; rw [hsc]; rfl), by rw [hcs]; rfl, by decide, by decide⟩
  have hkb : env.kindOf "book" = some .cell := by unfold Env.kindOf; rw [hsc]; rfl
  kspl_open gv
  kspl_open go
  refine callWith_K0 (hX.in_ S) (k_hds Pp) ?_
  refine hmake_spec (k := k + 2) S (fun b hb => ?_) hX hG hA fun vB K₁ aL s₁ hle S hV => ?_
  · obtain ⟨Q, hQ⟩ := hmu b hb
    exact S.lt (by simp only [List.mem_cons]; exact .inr (.inr (.inr (.inr (.inr (.inr (.inr hQ)))))))
  have S := S.swap
  have hG := hG.mono hle
  have hX := hX.mono hle
  have hB := hB.mono hle
  have rK := rK.mono hle
  have hc := hcb
  have hk := hkb
  kspl_open stc
  clear hc hk
  kspl_open go
  refine it_rd S hA.handled rK fun I s₁ S W => ?_
  kspl_open bk
  refine for_j (fun i => eJ sc dr or' ru si re (some vK) aL ((L + 6, CellO vw) :: (L + 5, CellO vn) :: (L + 4, CellO none) :: (L + 3, CellO none) :: (L + 2, CellO (some vB)) :: (L + 1, CellO (some (.int (many : Nat) tm))) :: own) (hdRows (ks.take i))) S hL W.kinds (fun _ kJ => kJ _ _ _ _ _ [] .nil) ?_ ?_
  · intro i K₃ s₁ PI E' Nn hi hle₃ hNl hNx fi sz gr na wo lv hlv S f z gg d hki rd
    kspl_open gv
    have hf : f < 64 := (hks _ (List.mem_of_getElem? hki)).1
    have hz : z ≤ many := (hks _ (List.mem_of_getElem? hki)).2
    have hn := nm_facts (f, z, gg) (by show z ≤ 6; exact om322 hmany hz)
    have hm := vl_facts (f, z, gg) hf
    have hG := hG.mono hle₃
    have hX := hX.mono hle₃
    have hV := hV.mono hle₃
    refine as_kind S hL hA.handled (rd.mono hle₃) fun t1 t2 s₁ S => ?_
    kspl_open go
    refine callWith_K (hX.in_ S) (k_ap Pp) ?_
    kspl_open go
    rw [show (32 : Int) + (z : Int) = ((32 + z : Nat) : Int) from by exact om331]
    refine ⟨hX.in_ S, ap_spec (k := k + 3) (f_ap hX) hG S.kept hA (.inl rfl) (by exact om330) (by exact om326 hmany hz) fun t K' s₁ rr => ?_⟩
    have S := S.call0 rr
    clear rr
    refine KBd.method ?_
    kspl_open go
    refine c_decode S (by exact om326 hmany hz) fun t s₁ S => ?_
    kspl_open go
    refine callWith_K (hX.in_ S) (k_ap Pp) ?_
    kspl_open go
    rw [show (64 : Int) + (f : Int) = ((64 + f : Nat) : Int) from by exact om329]
    refine ⟨hX.in_ S, ap_spec (k := k + 3) (f_ap hX) hG S.kept hA (.inl rfl) (by exact om328) (by exact om325 hf) fun t K' s₁ rr => ?_⟩
    have S := S.call0 rr
    clear rr
    refine KBd.method ?_
    kspl_open go
    refine c_decode S (by exact om325 hf) fun t s₁ S => ?_
    kspl_open go
    have hc := hcb
    kspl_open cel
    clear hc
    refine hd_meth S hX hV (p_hadd Pp) (by decide) ?_
    refine callWith_K (hX.in_ S) (k_hadd Pp) ?_
    refine spliced_more ?_
    refine' st_mono S (x := nmS (f, z, gg)) ?ha ?hb
    case ha =>
      kspl_open go
      refine PyProof.Rows.isTrue_plain ?_
      kspl_open go
      refine b_mod S (by decide) fun t s₁ S => ?_
      rw [show Int.fmod (((f, z, gg) : P.Kind).1 : Int) 2 = ((f % 2 : Nat) : Int) from fmod_nat f 2]
      kspl_open go
      refine ite_b (fun hb => ?_) fun hb => ?_
      · have hb : f % 2 ≠ 0 := by simp at hb; exact om327 hb
        kspl_open go
        rw [show nmS (f, z, gg) = ap (32 + z) from if_neg hb]
        exact ⟨_, rfl, S⟩
      · have hb : f % 2 = 0 := by simp at hb; exact om134 hb
        kspl_open go
        refine GM.lower ?_
        kspl_open go
        refine c_lower S (lo_fits (ap_up _ (by exact om326 hmany hz))) fun t s₁ S => ?_
        rw [show nmS (f, z, gg) = Txt.lower (ap (32 + z)) from if_pos hb]
        exact ⟨_, rfl, S⟩
    clear S
    intro tN s₁ S
    refine spliced_more ?_
    refine' st_mono S (x := vlS (f, z, gg)) ?hc ?hd
    case hc =>
      kspl_open go
      refine ite_b (fun hb => ?_) fun hb => ?_
      · kspl_open go
        rw [show vlS (f, z, gg) = ap (64 + f) from if_pos hb]
        exact ⟨_, rfl, S⟩
      · kspl_open go
        refine GM.lower ?_
        kspl_open go
        refine c_lower S (lo_fits (ap_up _ (by exact om325 hf))) fun t s₁ S => ?_
        rw [show vlS (f, z, gg) = Txt.lower (ap (64 + f)) from if_neg (by show ¬ gg = true; rw [hb]; exact Bool.false_ne_true)]
        exact ⟨_, rfl, S⟩
    clear S
    intro tV s₁ S
    kspl_open go
    have hlvl : lv.length ≤ 200 := by
      rw [hlv.length, List.length_map]
      unfold hdRows
      rw [List.length_map, List.length_take]; exact om324 hkl
    refine' ⟨hX.in_ S, wpAny_call (hadd_code (k := k + 2) S hX hG hA hV ?zm (fun r => ?zu) hlvl hn.1 hn.2.1 hm.1 hm.2 ?_)⟩
    case zm => kspl_open me
    case zu => kspl_open ou
    clear S
    intro K₄ r s₁ hle₄ S rr
    kspl_open go
    refine hNl _ _ _ _ _ rfl hle₄ (fun _ kJ => kJ _ _ _ _ _ _ ?_) (S.unV hLv)
    rw [hdRows_succ hki, List.map_append]
    exact (hlv.mono hle₄).append (.cons rr .nil)
  · intro K₃ s₁ hle₃
    rw [List.take_of_length_le (Nat.le_refl _)]
    intro fi sz gr na wo lv hlv S
    kspl_open gv
    have hmu2 : MuIn c.mu ((L + 6, CellO vw) :: (L + 5, CellO vn) :: (L + 4, CellO none) :: (L + 3, CellO none) :: (L + 2, CellO (some vB)) :: (L + 1, CellO (some (.int (many : Nat) tm))) :: own) := fun a ha => by
      obtain ⟨Q, hQ⟩ := hmu a ha
      exact ⟨Q, by simp only [List.mem_cons]; exact .inr (.inr (.inr (.inr (.inr (.inr hQ)))))⟩
    refine St.frzL S (S.out hmu2) hlv fun K₅ hle₅ rc S => ?_
    have hR := rc.rd
    have hle4 := hle₃.trans hle₅
    refine hNn _ _ ?_
    kspl_open bk
    refine law_F S hL he hcs hsc hT hmu (hX.mono hle4) (hG.mono hle4) (hB.mono hle4) hA hgb (rK.mono hle4) (hV.mono hle4) hR hmany hm2 hks hkl (by unfold hdRows; rw [List.length_map]; exact om323 hkl) (fun r hr => ?_) hrow hw hok hrise hcomp fun g' s' hg' S => h g' s' hg' (S.shrink hK0 (hle.trans hle4))
    unfold hdRows at hr
    obtain ⟨q, hq, rfl⟩ := List.mem_map.mp hr
    exact (nm_facts q (by have := (hks q hq).2; exact om322 hmany this)).2.2
end

section
section
set_option maxRecDepth 100000
end
abbrev dRen (r : P.RS) : PyData := .tuple [dInts r.image, .int r.turn]
set_option maxRecDepth 100000 in
set_option maxHeartbeats 4000000 in
theorem law_D {prog : Program} {w : World} {A : Around} {c : Cx} {g : Gs} {K : KP} {own : Own} {s₁ : Shared} {env : Env} {L : Addr} {k many : Nat} {sc dr wo ru fi sz gr na : Option Value} {vO vS : Value} {vn vw : Option Value} {tm : Tok} {ord z0 z1 : List Nat} {r0 r1 : P.RS} {ks : List P.Kind} {Pp : Params} {Nq : Flow → Shared → Prop}
    (S : St c g K ((L, FrO lawN [sc, dr, wo, some vO, ru, some vS, none, none, fi, sz, gr, na, none]) :: (L + 6, CellO vw) :: (L + 5, CellO vn) :: (L + 4, CellO none) :: (L + 3, CellO none) :: (L + 2, CellO none) :: (L + 1, CellO (some (.int (many : Nat) tm))) :: own) s₁)
    (hL : c.h0.objs.size ≤ L) (he : EnvF env L lawN lawG) (hcs : env.cells = lawC L) (hsc : env.scope = lawFd.S) (hT : (106, TabO) ∈ own) (hmu : MuIn c.mu own) (hX : InK (KFh Pp) K) (hG : GB K gl bl) (hB : BMK K) (hA : AOk A (k + 4)) (hgb : AllBare g)
    (rO : Rd K vO (dInts ord)) (rS : Rd K vS (.list [dInts z0, dInts z1])) (hp : ord.Perm (List.range many)) (hz0 : ∀ z ∈ z0, z ≤ 6) (hl0 : z0.length ≤ 6) (hz1 : ∀ z ∈ z1, z ≤ 6) (hl1 : z1.length ≤ 6)
    (e0 : r0 = P.renL (List.range many) z0) (e1 : r1 = P.renL ord z1) (hi0 : r0.image.length ≤ 6 ∧ ∀ p ∈ r0.image, p ≤ 6) (hi1 : r1.image.length ≤ 6 ∧ ∀ p ∈ r1.image, p ≤ 6)
    (m0 : P.Mv (2 ^ many) (P.movedL r0.image)) (m1 : P.Mv (2 ^ many) (P.movedL r1.image)) (u0 : P.unit r0.turn) (u1 : P.unit r1.turn) (ek : ks = P.kindsL (P.movedL r0.image) (P.movedL r1.image) r0.turn r1.turn many)
    (hmany : many ≤ 6) (hm2 : 2 < many)
    (hks : ∀ k ∈ ks, k.1 < 64 ∧ k.2.1 ≤ many) (hkl : ks.length ≤ 64)
    (hrow : ∀ i, i ≤ many → rowsOf (hdRows ks) (Txt.lower (cx i)) = (dueL ks many).getD i [])
    (hw : ∀ r ∈ dueL ks many, r.length ≤ 64 ∧ ∀ w ∈ r, (Txt.upper w).cps.size < 100)
    (hok : ∀ r ∈ dueL ks many, ∀ w ∈ r, PyData.strOk w = true)
    (hrise : ∀ i r0 r1, i < 3 → (dueL ks many)[i]? = some r0 → (dueL ks many)[i + 1]? = some r1 → Rise r0.length (great r0) r1.length (great r1))
    (hcomp : ∀ i r0 r1, i < 3 → (dueL ks many)[i]? = some r0 → (dueL ks many)[many - i]? = some r1 → r1.length = r0.length ∧ great r1 = great r0)
    (h : ∀ g' s', AllBare g' → St c g' K own s' → Nq (.ret (.bool true)) s') :
    wpAny (model prog w) A (execs (lawFd.B.drop 10) env) Nq (fun _ _ => False) s₁ := by
  have hK0 := S.le
  have hol : ord.length = many := by rw [hp.length_eq, List.length_range]
  have hmu2 : MuIn c.mu ((L + 6, CellO vw) :: (L + 5, CellO vn) :: (L + 4, CellO none) :: (L + 3, CellO none) :: (L + 2, CellO none) :: (L + 1, CellO (some (.int (many : Nat) tm))) :: own) := fun a ha => by
    obtain ⟨Q, hQ⟩ := hmu a ha
    exact ⟨Q, by simp only [List.mem_cons]; exact .inr (.inr (.inr (.inr (.inr (.inr hQ)))))⟩
  kspl_open gv
  kspl_open go
  refine callWith_K (hX.in_ S) (k_ren Pp) ?_
  kspl_open go
  refine c_sortO S hL rO hp hmany fun d s₁ vs' r0' S => ?_
  refine St.frzL S (S.out hmu2) r0' fun K₀ hle rc S => ?_
  have rR := rc.rd
  clear rc r0'
  have rO := rO.mono hle
  have rS := rS.mono hle
  have hG := hG.mono hle
  have hX := hX.mono hle
  have hB := hB.mono hle
  kspl_open go
  refine sub_rd S rS (i := 0) rfl rfl (by decide) fun v0 rv0 => ?_
  kspl_open go
  refine ⟨hX.in_ S, ren_spec (k := k + 3) (f_ren hX) hG S.kept hA rR rv0 (List.Perm.refl _) hmany hz0 hl0 fun vr0 K₁ s₁ rr q0 => ?_⟩
  rw [← e0] at q0
  have S := S.call rr
  have hle1 := rr.le
  clear rr
  have rO := rO.mono hle1
  have rS := rS.mono hle1
  have hG := hG.mono hle1
  have hX := hX.mono hle1
  have hB := hB.mono hle1
  kspl_open go
  refine callWith_K (hX.in_ S) (k_ren Pp) ?_
  kspl_open go
  refine sub_rd S rS (i := 1) rfl rfl (by decide) fun v1 rv1 => ?_
  kspl_open go
  refine ⟨hX.in_ S, ren_spec (k := k + 3) (f_ren hX) hG S.kept hA rO rv1 hp hmany hz1 hl1 fun vr1 K₂ s₁ rr q1 => ?_⟩
  rw [← e1] at q1
  have S := S.call rr
  have hle2 := rr.le
  clear rr
  have q0 := q0.mono hle2
  have hG := hG.mono hle2
  have hX := hX.mono hle2
  have hB := hB.mono hle2
  kspl_open go
  refine nw_list S fun aR s₁ S => ?_
  refine St.frzL S (S.out hmu2) (ds := [r0, r1].map dRen) (.cons q0 (.cons q1 .nil)) fun K₃ hle3 rc S => ?_
  have rRen := rc.rd
  have hG := hG.mono hle3
  have hX := hX.mono hle3
  have hB := hB.mono hle3
  have hleA := hle.trans (hle1.trans (hle2.trans hle3))
  kspl_open go
  refine callWith_K (hX.in_ S) (k_kinds Pp) ?_
  kspl_open go
  refine ev_comp (cl := []) (closureFor_none (by decide)) rfl (by decide) ?_
  kspl_open go
  refine it_rd S hA.handled rRen fun I s₁ S W => ?_
  refine cmp_map (cgn := ["_law_moved"]) ([r0, r1].map fun r => dInts (P.movedL r.image)) S W.map (by decide) rfl (comp_env he rfl (by decide) (by decide +kernel)) (by show 2 ≤ 2 ^ 24; decide) rfl ?_ ?_
  · intro j K₄ ys s₁ PI2 C D E' Nn hj hle4 he' hC hNl q qv hq rd S
    have he := he'
    have hG := hG.mono hle4
    have hX := hX.mono hle4
    have hqi : q.image.length ≤ 6 ∧ ∀ p ∈ q.image, p ≤ 6 := by
      have := List.mem_of_getElem? hq
      simp only [List.mem_cons, List.not_mem_nil, or_false] at this
      rcases this with rfl | rfl
      · exact hi0
      · exact hi1
    kspl_open go
    refine callWith_K (hX.in_ S) (k_moved Pp) ?_
    kspl_open go
    refine sub_tup S (rd.mono hle4) (i := 0) rfl rfl (by decide) fun w0 rw0 => ?_
    kspl_open go
    refine ⟨hX.in_ S, moved_spec (k := k + 3) (f_moved hX) hG S.kept hA rw0 hqi.1 hqi.2 fun v K' s₁ rr rm => ?_⟩
    have S := S.call rr
    have hle5 := rr.le
    clear rr
    kspl_open go
    exact hNl _ _ _ _ _ (gm hq) hle5 rm S
  intro K₄ ys s₁ D1 hle4 hys S
  refine St.frzL S (S.out hmu2) hys fun K₅ hle5 rc S => ?_
  have rM : Rd K₅ (.ref D1) (.list [dInts (P.movedL r0.image), dInts (P.movedL r1.image)]) := rc.rd
  have hle5 := hle4.trans hle5
  clear rc hys
  have rRen := rRen.mono hle5
  have hG := hG.mono hle5
  have hX := hX.mono hle5
  have hB := hB.mono hle5
  kspl_open go
  refine ev_comp (cl := []) (closureFor_none (by decide)) rfl (by decide) ?_
  kspl_open go
  refine it_rd S hA.handled rRen fun I s₁ S W => ?_
  refine cmp_map (cgn := []) ([r0, r1].map fun r => PyData.int r.turn) S W.map (by decide) rfl (comp_env he rfl (by decide) (fun _ h => nomatch h)) (by show 2 ≤ 2 ^ 24; decide) rfl ?_ ?_
  · intro j K₆ ys s₁ PI2 C D E' Nn hj hle6 he' hC hNl q qv hq rd S
    have he := he'
    kspl_open go
    refine sub_tup S (rd.mono hle6) (i := 1) rfl rfl (by decide) fun w0 rw0 => ?_
    kspl_open go
    exact hNl _ _ _ _ _ (gm hq) (Le.refl _) rw0 S
  intro K₆ ys s₁ D2 hle6 hys S
  refine St.frzL S (S.out hmu2) hys fun K₇ hle7 rc S => ?_
  have rU : Rd K₇ (.ref D2) (.list [.int r0.turn, .int r1.turn]) := rc.rd
  have hle7 := hle6.trans hle7
  clear rc hys
  have rM := rM.mono hle7
  have hG := hG.mono hle7
  have hX := hX.mono hle7
  have hB := hB.mono hle7
  kspl_open go
  refine ⟨hX.in_ S, kinds_spec (k := k + 3) (f_kinds hX) hG S.kept hA rM rU m0 m1 u0 u1 hmany fun vK K₈ s₁ rr rK => ?_⟩
  rw [← ek] at rK
  have S := S.call rr
  have hle8 := rr.le
  clear rr
  kspl_open sv
  refine hNn _ _ ?_
  kspl_open bk
  refine law_E S hL he hcs hsc hT hmu (hX.mono hle8) (hG.mono hle8) (hB.mono hle8) hA hgb rK hmany hm2 hks hkl hrow hw hok hrise hcomp fun g' s' hg' S => h g' s' hg' (S.shrink hK0 (hleA.trans (hle5.trans (hle7.trans hle8))))
end

section
section
set_option maxRecDepth 100000
end
def rA (n : Nat) (x : Int) : Nat := n - (x.fmod 4).toNat
def rB (x : Int) : Nat := [0, 127, 1, 2, 3].getD ((x.fdiv 4).fmod 5).toNat 0
theorem fmod_bd (x : Int) (k : Nat) (h : 0 < k) : 0 ≤ x.fmod k ∧ x.fmod k < k := ⟨Int.fmod_nonneg_of_pos x (by exact om345 h), Int.fmod_lt_of_pos x (by exact om345 h)⟩
theorem rA_facts {n : Nat} (hn : n = 5 ∨ n = 6) (x : Int) : (n : Int) - x.fmod 4 = ((rA n x : Nat) : Int) ∧ rA n x ∈ [2, 3, 4, 5, 6] ∧ n ≤ rA n x + 3 := by
  obtain ⟨h1, h2⟩ := fmod_bd x 4 (by decide)
  have h2 : x.fmod 4 < 4 := h2
  have h1 : 0 ≤ x.fmod 4 := h1
  unfold rA
  generalize x.fmod 4 = m at h1 h2
  refine ⟨by exact om344 hn h1 h2, ?_, by exact om343 h2⟩
  simp only [List.mem_cons, List.not_mem_nil, or_false]
  exact om342 hn h2
theorem rB_facts (x : Int) : ∃ i : Nat, (x.fdiv 4).fmod 5 = (i : Int) ∧ i < 5 ∧ [0, 127, 1, 2, 3][i]? = some (rB x) ∧ rB x ∈ [0, 127, 1, 2, 3] := by
  obtain ⟨h1, h2⟩ := fmod_bd (x.fdiv 4) 5 (by decide)
  have h2 : (x.fdiv 4).fmod 5 < 5 := h2
  have h1 : 0 ≤ (x.fdiv 4).fmod 5 := h1
  have hi : ((x.fdiv 4).fmod 5).toNat < 5 := by exact om341 h2
  have e : [0, 127, 1, 2, 3][((x.fdiv 4).fmod 5).toNat]? = some (rB x) := by
    unfold rB
    rw [List.getD_eq_getElem?_getD, List.getElem?_eq_getElem (by exact hi)]; rfl
  exact ⟨((x.fdiv 4).fmod 5).toNat, by exact om340 h1, hi, e, List.mem_of_getElem? e⟩
theorem ints_shaped (l : List Nat) : (dInts l).canLay0 = true ∧ (dInts l).depth ≤ 2 := by
  have h1 : PyData.canLayAll0 (l.map dI) = true := canLay_map _ l fun x _ => by rw [PyData.canLay0]
  have h2 : PyData.depthAll (l.map dI) ≤ 1 := depth_map _ 1 l fun x _ => by simp [PyData.depth]
  rw [PyData.canLay0, PyData.depth]
  exact ⟨h1, by exact om321 h2⟩
theorem plain_bd {a b n : Nat} (ha : a ∈ [2, 3, 4, 5, 6]) (hb : b ∈ [0, 127, 1, 2, 3]) (hn : n = 5 ∨ n = 6) : (∀ z ∈ P.plainL a b n, z ≤ 6) ∧ (P.plainL a b n).length ≤ 6 := by
  have : ∀ n ∈ [5, 6], ∀ a ∈ [2, 3, 4, 5, 6], ∀ b ∈ [0, 127, 1, 2, 3], (∀ z ∈ P.plainL a b n, z ≤ 6) ∧ (P.plainL a b n).length ≤ 6 := by decide +kernel
  exact this n (by simp; exact om339 hn) a ha b hb
section
variable {prog : Program} {w : World} {A : Around} {E : Value → Shared → Prop} {c : Cx} {g : Gs} {K : KP} {own rest : Own} {s : Shared} {env : Env} {L : Addr} {names gn : List Str} {vals : List (Option Value)} {GL BL : List (Str × Value)}
/-- a display of a tuple, subscripted -/
theorem sub_tupT {value slice : Expr} {v : Value} {ds : List PyData} {k : Int} {u : Tok} {i : Nat} {d : PyData} {Q : Value → Shared → Prop} (S : St c g K own s) (hr : Rd K v (.tuple ds)) (hk : k = i) (hx : ds[i]? = some d) (hi : i < 2 ^ 62)
    (h : ∀ x, Rd K x d → Q x s) (hs : ∀ a, subscripted slice false (.ref a) (.int k u) = operate [.ref a, .int k u] (getItem (.ref a) (.int k u)) := by intro _; with_unfolding_all rfl) :
    wpAny (model prog w) A (subscriptTail value slice v (.int k u)) Q E s := by
  obtain ⟨a, vs, rfl, ho, r⟩ := S.rdTuple hr
  obtain ⟨x, hx', rx⟩ := r.get hx
  have hlt : i < vs.length := (List.getElem?_eq_some_iff.mp hx').1
  refine item_tupleT ho (by exact om71 hk) (by exact om67 hk hi) (j := i) ?_ (by simpa using hx') (h x rx) (hs a)
  subst hk
  unfold seqIndex?
  have h1 : ¬ ((i : Int) < 0) := by exact om70
  have h2 : (0 ≤ (i : Int)) := by exact om1
  have h3 : ((i : Int) < vs.length) := by exact om338 hlt
  simp only [h1, if_false, h2, decide_true, h3, Bool.true_and, if_true, Int.toNat_natCast]
end
set_option maxRecDepth 100000 in
set_option maxHeartbeats 4000000 in
theorem law_C {prog : Program} {w : World} {A : Around} {c : Cx} {g : Gs} {K : KP} {own : Own} {s₁ : Shared} {env : Env} {L : Addr} {k many : Nat} {sc wo fi sz gr na : Option Value} {vO vDr : Value} {vn vw : Option Value} {tm : Tok} {ord z0 z1 : List Nat} {D : List Int} {x1 x2 : Int} {r0 r1 : P.RS} {ks : List P.Kind} {Pp : Params} {Nq : Flow → Shared → Prop}
    (S : St c g K ((L, FrO lawN [sc, some vDr, wo, some vO, none, none, none, none, fi, sz, gr, na, none]) :: (L + 6, CellO vw) :: (L + 5, CellO vn) :: (L + 4, CellO none) :: (L + 3, CellO none) :: (L + 2, CellO none) :: (L + 1, CellO (some (.int (many : Nat) tm))) :: own) s₁)
    (hL : c.h0.objs.size ≤ L) (he : EnvF env L lawN lawG) (hcs : env.cells = lawC L) (hsc : env.scope = lawFd.S) (hT : (106, TabO) ∈ own) (hmu : MuIn c.mu own) (hX : InK (KFh Pp) K) (hG : GB K gl bl) (hB : BMK K) (hA : AOk A (k + 4)) (hgb : AllBare g)
    (rDr : Rd K vDr (.list (D.map PyData.int))) (hD9 : D.length = 9) (hx1 : D[1]? = some x1) (hx2 : D[2]? = some x2) (rO : Rd K vO (dInts ord)) (hp : ord.Perm (List.range many)) (hm5 : many = 5 ∨ many = 6) (ez0 : z0 = P.plainL (rA many x1) (rB x1) many) (ez1 : z1 = P.plainL (rA many x2) (rB x2) many)
    (e0 : r0 = P.renL (List.range many) z0) (e1 : r1 = P.renL ord z1) (hi0 : r0.image.length ≤ 6 ∧ ∀ p ∈ r0.image, p ≤ 6) (hi1 : r1.image.length ≤ 6 ∧ ∀ p ∈ r1.image, p ≤ 6)
    (m0 : P.Mv (2 ^ many) (P.movedL r0.image)) (m1 : P.Mv (2 ^ many) (P.movedL r1.image)) (u0 : P.unit r0.turn) (u1 : P.unit r1.turn) (ek : ks = P.kindsL (P.movedL r0.image) (P.movedL r1.image) r0.turn r1.turn many)
    (hks : ∀ k ∈ ks, k.1 < 64 ∧ k.2.1 ≤ many) (hkl : ks.length ≤ 64)
    (hrow : ∀ i, i ≤ many → rowsOf (hdRows ks) (Txt.lower (cx i)) = (dueL ks many).getD i [])
    (hw : ∀ r ∈ dueL ks many, r.length ≤ 64 ∧ ∀ w ∈ r, (Txt.upper w).cps.size < 100)
    (hok : ∀ r ∈ dueL ks many, ∀ w ∈ r, PyData.strOk w = true)
    (hrise : ∀ i r0 r1, i < 3 → (dueL ks many)[i]? = some r0 → (dueL ks many)[i + 1]? = some r1 → Rise r0.length (great r0) r1.length (great r1))
    (hcomp : ∀ i r0 r1, i < 3 → (dueL ks many)[i]? = some r0 → (dueL ks many)[many - i]? = some r1 → r1.length = r0.length ∧ great r1 = great r0)
    (h : ∀ g' s', AllBare g' → St c g' K own s' → Nq (.ret (.bool true)) s') :
    wpAny (model prog w) A (execs (lawFd.B.drop 7) env) Nq (fun _ _ => False) s₁ := by
  have hK0 := S.le
  have hmu2 : MuIn c.mu ((L + 6, CellO vw) :: (L + 5, CellO vn) :: (L + 4, CellO none) :: (L + 3, CellO none) :: (L + 2, CellO none) :: (L + 1, CellO (some (.int (many : Nat) tm))) :: own) := fun a ha => by
    obtain ⟨Q, hQ⟩ := hmu a ha
    exact ⟨Q, by simp only [List.mem_cons]; exact .inr (.inr (.inr (.inr (.inr (.inr hQ)))))⟩
  have hcm : CelF env "many" (L + 1) := ⟨.inl (by unfold Env.kindOf; rw [hsc]; rfl), by rw [hcs]; rfl, by decide, by decide⟩
  have hcl1 : ∀ (scp : Scope), scp.names = [((".0" : Str), NameKind.local), ("x", .local), ("many", .free)] → closureFor scp env = pure [(("many" : Str), L + 1)] := by
    intro scp hn
    rw [closureFor_of (fun y hy hf => ?_), hcs, hn]
    · rfl
    · rw [hcs]
      rw [hn] at hy
      simp only [List.mem_cons, List.not_mem_nil, or_false] at hy
      rcases hy with rfl | rfl | rfl
      · cases hf
      · cases hf
      · exact ⟨_, rfl⟩
  kspl_open gv
  kspl_open go
  refine x_comp (cl := [("many", L + 1)]) (swaps_comp he (he.all _ (by decide)).1 rfl (by decide)) (hcl1 _ rfl) rfl (by decide) ?_
  kspl_open go
  have eD : ((D.map PyData.int).drop 1).take 2 = [x1, x2].map PyData.int := by
    match D, hD9, hx1, hx2 with
    | _ :: a :: b :: _, _, h1, h2 =>
      cases h1
      cases h2
      rfl
  have hDl : (D.map PyData.int).length = 9 := by rw [List.length_map, hD9]
  refine sl_rd S rDr (.int _ _) (.int _ _) (by rw [hDl]; decide) (Eq.trans (by rw [hDl]; rfl) eD) fun d s₁ us ru S => ?_
  refine St.frzL S (S.out hmu2) ru fun K₁ hle1 rc S => ?_
  have rX := rc.rd
  have rDr := rDr.mono hle1
  have rO := rO.mono hle1
  have hG := hG.mono hle1
  have hX := hX.mono hle1
  have hB := hB.mono hle1
  clear rc ru eD hDl
  refine it_rd S hA.handled rX fun I s₁ S W => ?_
  kspl_open bk
  refine cmp_mapU (cgn := []) AllBare ([x1, x2].map fun x => PyData.list [dI (rA many x), dI (rB x)]) S he W.ints (by decide) rfl (comp_env he rfl (by decide) (fun _ h => nomatch h)) (by show 2 ≤ 2 ^ 24; decide) rfl hgb (fun _ => by kspl_open up) ?_ ?_
  · intro i g' K₃ ys s₁ PI C D' E' Nn hi hgb hle₃ he' hNl x tx hx S
    have hcm := he'.cel hcm rfl rfl
    have he := he'
    have ha := rA_facts hm5 x
    obtain ⟨j, b1, b2, b3, b4⟩ := rB_facts x
    kspl_open go
    have hc := hcm
    kspl_open cel
    clear hc
    kspl_open go
    refine b_mod S (by decide) fun t s₁ S => ?_
    kspl_open go
    rw [ha.1]
    refine nw_tuple S (.cons (.int _ _) (.cons (.int _ _) (.cons (.int _ _) (.cons (.int _ _) (.cons (.int _ _) .nil))))) fun aT s₁ K₄ hle₄ S rT => ?_
    kspl_open go
    refine b_div S (by decide) (PyProof.noPylong_small (by decide)) fun t s₁ S => ?_
    kspl_open go
    refine b_mod S (by decide) fun t s₁ S => ?_
    rw [b1]
    refine sub_tupT S rT (i := j) (d := PyData.int ((rB x : Nat) : Int)) rfl ?_ (by exact om336 b2) fun vb rb => ?_
    · have : ([PyData.int 0, .int 127, .int 1, .int 2, .int 3] : List PyData) = [0, 127, 1, 2, 3].map (fun z : Nat => PyData.int (z : Int)) := rfl
      rw [this, List.getElem?_map, b3]; rfl
    kspl_open go
    refine nw_list S fun a s₁ S => ?_
    refine St.frzL S (S.out fun b hb => by
      obtain ⟨Q, hQ⟩ := hmu b hb
      exact ⟨Q, by simp [hQ]⟩) (.cons (.int _ _) (.cons rb .nil)) fun K₅ hle₅ rc S => ?_
    kspl_open go
    exact hNl _ _ _ _ _ _ (gm hx) hgb (hle₄.trans hle₅) rc.rd S
  intro g' K₃ ys s₁ D1 hgb hle₃ hys S
  refine St.frzL S (S.out hmu2) hys fun K₄ hle3 rc S => ?_
  have rRu := rc.rd
  have hle3 := hle₃.trans hle3
  clear rc hys hle₃
  have rO := rO.mono hle3
  have hG := hG.mono hle3
  have hX := hX.mono hle3
  have hB := hB.mono hle3
  have hcl2 : ∀ (scp : Scope) (gname : Str), scp.names = [((".0" : Str), NameKind.local), ("ruler", .local), (gname, .globalImplicit), ("many", .free)] → closureFor scp env = pure [(("many" : Str), L + 1)] := by
    intro scp gname hn
    rw [closureFor_of (fun y hy hf => ?_), hcs, hn]
    · rfl
    · rw [hcs]
      rw [hn] at hy
      simp only [List.mem_cons, List.not_mem_nil, or_false] at hy
      rcases hy with rfl | rfl | rfl | rfl
      · cases hf
      · cases hf
      · cases hf
      · exact ⟨_, rfl⟩
  kspl_open go
  refine x_comp (cl := [("many", L + 1)]) (swaps_comp he (he.all _ (by decide)).1 rfl (by decide)) (hcl2 _ _ rfl) rfl (by decide) ?_
  kspl_open go
  refine it_rd S hA.handled rRu fun I s₁ S W => ?_
  kspl_open bk
  refine cmp_mapU (cgn := ["_law_sizes"]) AllBare ([x1, x2].map fun x => dInts (P.plainL (rA many x) (rB x) many)) S he W.map (by decide) rfl (comp_env he rfl (by decide) (by decide +kernel)) (by show 2 ≤ 2 ^ 24; decide) rfl hgb (fun _ => by kspl_open up) ?_ ?_
  · intro i g' K₄ ys s₁ PI C D' E' Nn hi hgb' hle₄ he' hNl x xv hx rd S
    have hcm := he'.cel hcm rfl rfl
    have he := he'
    have hG := hG.mono hle₄
    have hX := hX.mono hle₄
    have ha := rA_facts hm5 x
    obtain ⟨j, b1, b2, b3, b4⟩ := rB_facts x
    kspl_open go
    refine callWith_K (hX.in_ S) (k_sizes Pp) ?_
    kspl_open go
    have hc := hcm
    kspl_open cel
    clear hc
    kspl_open go
    refine ⟨hX.in_ S, sizes_spec (k := k + 2) hX hG S.kept hA (rd.mono hle₄) hm5 ha.2.1 ha.2.2 b4 (by rw [S.gens]; exact hgb') fun v K' g2 s₁ hg2 rr rz => ?_⟩
    have S := S.back rr
    have hle5 := rr.le
    clear rr
    kspl_open go
    exact hNl _ _ _ _ _ _ (gm hx) hg2 hle5 rz S
  intro g' K₄ ys s₁ D2 hgb hle₄ hys S
  refine St.frzL S (S.out hmu2) hys fun K₅ hle4 rc S => ?_
  have rSi := rc.rd
  have hle4 := hle₄.trans hle4
  clear rc hys hle₄
  have rRu := rRu.mono hle4
  have rO := rO.mono hle4
  have hG := hG.mono hle4
  have hX := hX.mono hle4
  have hB := hB.mono hle4
  kspl_open go
  refine ev_comp (cl := [("many", L + 1)]) (hcl2 _ _ rfl) rfl (by decide) ?_
  kspl_open go
  refine it_rd S hA.handled rRu fun I s₁ S W => ?_
  refine cmp_mapG (cgn := ["_law_plain"]) AllBare ([x1, x2].map fun x => dInts (P.plainL (rA many x) (rB x) many)) S W.map (by decide) rfl (comp_env he rfl (by decide) (by decide +kernel)) (by show 2 ≤ 2 ^ 24; decide) rfl hgb ?_ ?_
  · intro i g2 K₅ ys s₁ PI2 C D' E' Nn hi hgb hle₅ he' hNl x xv hx rd S
    have hcm := he'.cel hcm rfl rfl
    have he := he'
    have hG := hG.mono hle₅
    have hX := hX.mono hle₅
    have ha := rA_facts hm5 x
    obtain ⟨j, b1, b2, b3, b4⟩ := rB_facts x
    kspl_open go
    refine callWith_K (hX.in_ S) (k_plain Pp) ?_
    kspl_open go
    refine sub_rdI S (rd.mono hle₅) (i := 0) rfl (by decide) fun ta => ?_
    kspl_open go
    refine sub_rdI S (rd.mono hle₅) (i := 1) rfl (by decide) fun tb => ?_
    kspl_open go
    have hc := hcm
    kspl_open cel
    clear hc
    kspl_open go
    have ha6 : rA many x ≠ 0 ∧ rA many x ≤ 6 := by have a2 := ha.2.1; simp at a2; exact om335 a2
    have hb127 : rB x ≤ 127 := by simp at b4; exact om334 b4
    refine ⟨hX.in_ S, plain_spec (k := k + 3) (f_plain hX) hG S.kept hA ha6.1 ha6.2 hb127 (by exact om256 hm5) fun v K' s₁ rr rz => ?_⟩
    have S := S.call rr
    have hle6 := rr.le
    clear rr
    kspl_open go
    exact hNl _ _ _ _ _ _ (gm hx) hgb hle6 rz S
  intro g2 K₅ ys s₁ D3 hgb hle₅ hys S
  refine St.frzL S (S.out hmu2) hys fun K₆ hle5 rc S => ?_
  have rSj := rc.rd
  have hle5 := hle₅.trans hle5
  clear rc hys hle₅
  have rSi := rSi.mono hle5
  have rO := rO.mono hle5
  have hG := hG.mono hle5
  have hX := hX.mono hle5
  have hB := hB.mono hle5
  have hsh : SeqAt.shaped (.list ([x1, x2].map fun x => dInts (P.plainL (rA many x) (rB x) many))) = true := by
    have h1 := canLay_map (fun x => dInts (P.plainL (rA many x) (rB x) many)) [x1, x2] fun x _ => (ints_shaped _).1
    have h2 := depth_map (fun x => dInts (P.plainL (rA many x) (rB x) many)) 2 [x1, x2] fun x _ => (ints_shaped _).2
    unfold SeqAt.shaped
    rw [PyData.canLay0, PyData.depth, h1, Bool.true_and]
    exact decide_eq_true (by exact om320 h2)
  refine ne_rd S rSi rSj hsh hsh hA ?_
  have heq : PyData.eqv (.list ([x1, x2].map fun x => dInts (P.plainL (rA many x) (rB x) many))) (.list ([x1, x2].map fun x => dInts (P.plainL (rA many x) (rB x) many))) = true := by
    simp [PyData.eqv, PyData.eqvAll, eqv_nats]
  rw [heq, Bool.not_true]
  kspl_open go
  rw [if_neg Bool.false_ne_true]
  kspl_open one
  obtain ⟨p1, p2⟩ := plain_bd (rA_facts hm5 x1).2.1 (rB_facts x1).choose_spec.2.2.2 hm5
  obtain ⟨p3, p4⟩ := plain_bd (rA_facts hm5 x2).2.1 (rB_facts x2).choose_spec.2.2.2 hm5
  rw [List.map_cons, List.map_cons, List.map_nil, ← ez0, ← ez1] at rSi
  rw [← ez0] at p1 p2
  rw [← ez1] at p3 p4
  refine hNn _ _ ?_
  kspl_open bk
  refine law_D S hL he hcs hsc hT hmu hX hG hB hA hgb rO rSi hp p1 p2 p3 p4 e0 e1 hi0 hi1 m0 m1 u0 u1 ek (by exact om256 hm5) (by exact om333 hm5) hks hkl hrow hw hok hrise hcomp fun g' s' hg' S => h g' s' hg' (S.shrink hK0 (hle1.trans (hle3.trans (hle4.trans hle5))))
end

section
section
set_option maxRecDepth 100000
end
def lt1 (nums : List Nat) (i j : Nat) : Bool := decide ((ap (nums.getD i 0)).cps.toList < (ap (nums.getD j 0)).cps.toList)
def kA (m : Nat) : Nat := if m < 16 then 16 * m else m
def kB (m : Nat) : Nat := if m < 16 then 1 else 2
def ltK (a b : Nat) : Bool := if kA a = kA b then decide (kB a < kB b) else decide (kA a < kA b)
def lt2 (nums : List Nat) (i j : Nat) : Bool := ltK (nums.getD i 0) (nums.getD j 0)
set_option maxRecDepth 100000 in
theorem lt_same (a b : Nat) (ha : a < 41) (hb : b < 41) (h1 : a ≠ 0) (h2 : b ≠ 0) : decide ((ap a).cps.toList < (ap b).cps.toList) = ltK a b := by
  have : ∀ a : Nat, a < 41 → ∀ b : Nat, b < 41 → a ≠ 0 → b ≠ 0 → decide ((ap a).cps.toList < (ap b).cps.toList) = ltK a b := by decide +kernel
  exact this a ha b hb h1 h2
def ordOf (nums : List Nat) (n : Nat) : List Nat := (run1 (lt1 nums) (kas_sort n)).toList
theorem tree_ok {n : Nat} (h : n = 5 ∨ n = 6) : treeOk n (kas_sort n) = true := by
  rcases h with rfl | rfl
  · exact tree5
  · exact tree6
theorem ord_perm {n : Nat} (nums : List Nat) (h : n = 5 ∨ n = 6) : (ordOf nums n).Perm (List.range n) := treeOk_perm n _ _ (tree_ok h)
theorem ord_same {n : Nat} {nums : List Nat} (h : n = 5 ∨ n = 6) (hl : nums.length = n) (hn : ∀ m ∈ nums, m < 41 ∧ m ≠ 0) : (run1 (lt2 nums) (kas_sort n)).toList = ordOf nums n := by
  unfold ordOf
  rw [treeOk_congr n (lt := lt2 nums) (lt' := lt1 nums) (fun i j hi hj => ?_) _ (tree_ok h)]
  unfold lt1 lt2
  have g : ∀ i, i < n → nums.getD i 0 ∈ nums := fun i hi => by
    rw [List.getD_eq_getElem?_getD, List.getElem?_eq_getElem (by exact om21 hl hi)]
    exact List.getElem_mem _
  exact (lt_same _ _ (hn _ (g i hi)).1 (hn _ (g j hj)).1 (hn _ (g i hi)).2 (hn _ (g j hj)).2).symm
section
variable {M : Model} {h : Heap}
theorem looks_str (x : Str) (t : Tok) : Looks M h (typeOf (.str x t)) (.type "str") := Looks.of_pure rfl
theorem looks_int (x : Int) (t : Tok) : Looks M h (typeOf (.int x t)) (.type "int") := Looks.of_pure rfl
end
theorem out_rd {K : KP} {n : Nat} {vs : List Value} (hvs : ∀ (i : Nat), i < n → ∃ t, vs[i]? = some (.int (i : Int) t)) : ∀ (l : List Nat), (∀ i ∈ l, i < n) → RdAll K (l.map fun i => vs.getD i .none) (l.map dI)
  | [], _ => .nil
  | i :: r, h => by
    obtain ⟨t, e⟩ := hvs i (h i List.mem_cons_self)
    rw [List.map_cons, List.map_cons]
    refine .cons ?_ (out_rd hvs r fun j hj => h j (List.mem_cons_of_mem _ hj))
    rw [List.getD_eq_getElem?_getD, e]
    exact .int _ _
theorem LamAt.mono {K K' : KP} {f : Addr} {qual : Str} {params : Arguments} {body : Expr} {scope : Scope} {clos : List (Str × Addr)} (h : LamAt K f qual params body scope clos) (l : Le K K') : LamAt K' f qual params body scope clos := by
  refine notnot fun hGoal => ?_
  obtain ⟨pm, ctv, c', oc, vs, t, h1, h2, h3⟩ := h
  refine hGoal ?_
  clear hGoal
  exact ⟨pm, ctv, c', oc, vs, t, l _ _ h1, l _ _ h2, h3⟩
theorem Rng.mono {K K' : KP} {r : Addr} {a n : Int} (h : Rng K r a n) (l : Le K K') : Rng K' r a n := by
  refine notnot fun hGoal => ?_
  obtain ⟨t, u, v, h⟩ := h
  refine hGoal ?_
  clear hGoal
  exact ⟨t, u, v, l _ _ h⟩
theorem getD_rd {K : KP} {α : Type} {f : α → PyData} : ∀ {ks : List Value} {l : List α} {i : Nat} {a : α}, RdAll K ks (l.map f) → l[i]? = some a → Rd K (ks.getD i .none) (f a)
  | ks, l, i, a, h, e => by
    refine notnot fun hGoal => ?_
    obtain ⟨v, hv, r⟩ := h.get (i := i) (d := f a) (by rw [List.getElem?_map, e]; rfl)
    refine hGoal ?_
    clear hGoal
    rw [List.getD_eq_getElem?_getD, hv]; exact r
theorem tup_open {K : KP} {v : Value} {a b : Int} (h : Rd K v (.tuple [.int a, .int b])) : ∃ x o n t u, v = .ref x ∧ K x o ∧ o.cls = .type "tuple" ∧ o.data = .seq #[.int a t, .int b u] n := by
  cases h with
  | @tuple x o vs n _ k hc hd r =>
    refine notnot fun hGoal => ?_
    obtain ⟨w1, ws, e1, r1, r'⟩ := r.consE
    refine hGoal ?_
    clear hGoal
    refine notnot fun hGoal => ?_
    obtain ⟨w2, ws2, e2, r2, r''⟩ := r'.consE
    refine hGoal ?_
    clear hGoal
    obtain ⟨t, rfl⟩ := r1.intE
    obtain ⟨u, rfl⟩ := r2.intE
    have e3 := r''.nilE
    refine ⟨x, o, n, t, u, rfl, k, hc, ?_⟩
    rw [hd]
    have : vs = #[.int a t, .int b u] := by
      apply Array.toList_inj.mp
      rw [e1, e2, e3]
    rw [this]
theorem kat_tups {K : KP} {h : Heap} (hk : ∀ b o, K b o → h.get? b = some o) : ∀ {ks : List Value} {l : List (Int × Int)}, RdAll K ks (l.map fun p => .tuple [.int p.1, .int p.2]) → ∃ fs, KatTups h ks fs ∧ fs.length = l.length ∧ ∀ v ∈ fs, ∃ x t, v = .int x t
  | _, [], .nil => ⟨[], .nil, rfl, fun _ h => nomatch h⟩
  | _, p :: r, .cons h1 h2 => by
    refine notnot fun hGoal => ?_
    obtain ⟨x, o, n, t, u, rfl, k, hc, hd⟩ := tup_open h1
    refine hGoal ?_
    clear hGoal
    refine notnot fun hGoal => ?_
    obtain ⟨fs, a, b, c⟩ := kat_tups hk h2
    refine hGoal ?_
    clear hGoal
    refine ⟨.int p.1 t :: fs, .cons (hk _ _ k) hc hd rfl a, by rw [List.length_cons, List.length_cons, b], fun v hv => ?_⟩
    rcases List.mem_cons.mp hv with rfl | hv
    · exact ⟨_, _, rfl⟩
    · exact c v hv
theorem lt_tups {prog : Program} {w : World} {A : Around} {E : Value → Shared → Prop} {K : KP} {s : Shared} {v u : Value} {a b a' b' : Int} {C : Bool → Shared → Prop} (hk : ∀ b o, K b o → s.heap.get? b = some o) (hv : Rd K v (.tuple [.int a, .int b])) (hu : Rd K u (.tuple [.int a', .int b']))
    (h : C (if a = a' then decide (b < b') else decide (a < a')) s) : wpAny (model prog w) A (keyLt' (tuples' true) v u) C E s := by
  refine notnot fun hGoal => ?_
  obtain ⟨x, o, n, t1, t2, rfl, k, hc, hd⟩ := tup_open hv
  refine hGoal ?_
  clear hGoal
  refine notnot fun hGoal => ?_
  obtain ⟨y, o', n', t3, t4, rfl, k', hc', hd'⟩ := tup_open hu
  refine hGoal ?_
  clear hGoal
  refine kat_lt (hk _ _ k) hd (hk _ _ k') hd' ?_
  refine kat_cons (wpAny_eqBool_int ?_)
  refine kat_go (fun e => ?_) fun e => ?_
  · have e : a = a' := by simpa using e
    rw [if_pos e] at h
    refine kat_yes (kat_cons (wpAny_eqBool_int ?_))
    refine kat_go (fun e2 => ?_) fun e2 => ?_
    · have e2 : b = b' := by simpa using e2
      refine kat_yes (kat_nil ?_)
      subst e2
      have : decide ((#[Value.int a t1, .int b t2]).size < (#[Value.int a' t3, .int b t4]).size) = decide (b < b) := by simp
      rw [this]; exact h
    · refine kat_no (kat_one _ _ (lt_int ?_))
      exact h
  · have e : ¬ a = a' := by simpa using e
    rw [if_neg e] at h
    refine kat_no ?_
    have := kat_lt_int (prog := prog) (w := w) (A := A) (E := fun _ _ => False) (s := s) (x := a) (y := a') (t := t1) (u := t3) h
    rw [keyLt'_oneType] at this
    exact this
set_option maxRecDepth 100000 in
set_option maxHeartbeats 4000000 in
theorem law_B {prog : Program} {w : World} {A : Around} {c : Cx} {g : Gs} {K : KP} {own : Own} {s₁ : Shared} {env : Env} {L : Addr} {k many : Nat} {sc wo fi sz gr na : Option Value} {vDr vN vW : Value} {tm : Tok} {nums z0 z1 : List Nat} {D : List Int} {x1 x2 : Int} {r0 r1 : P.RS} {ks : List P.Kind} {Pp : Params} {Nq : Flow → Shared → Prop}
    (S : St c g K ((L, FrO lawN [sc, some vDr, wo, none, none, none, none, none, fi, sz, gr, na, none]) :: (L + 6, CellO (some vW)) :: (L + 5, CellO (some vN)) :: (L + 4, CellO none) :: (L + 3, CellO none) :: (L + 2, CellO none) :: (L + 1, CellO (some (.int (many : Nat) tm))) :: (330, ExO (tabObj #[])) :: own) s₁)
    (hL : c.h0.objs.size ≤ L) (he : EnvF env L lawN lawG) (hcs : env.cells = lawC L) (hsc : env.scope = lawFd.S) (hcode : env.code = .ref 332) (hT : (106, TabO) ∈ own) (hmu : ∀ a ∈ c.mu, a = 330 ∨ ∃ P, (a, P) ∈ own) (hX : InK (KFh Pp) K) (hG : GB K gl bl) (hB : BMK K) (hA : AOk A (k + 4)) (hgb : AllBare g)
    (rN : Rd K vN (dInts nums)) (rW : Rd K vW (.list ((nums.map ap).map PyData.str))) (hnl : nums.length = many) (hnn : ∀ m ∈ nums, m < 41 ∧ m ≠ 0)
    (rDr : Rd K vDr (.list (D.map PyData.int))) (hD9 : D.length = 9) (hx1 : D[1]? = some x1) (hx2 : D[2]? = some x2) (hm5 : many = 5 ∨ many = 6) (ez0 : z0 = P.plainL (rA many x1) (rB x1) many) (ez1 : z1 = P.plainL (rA many x2) (rB x2) many)
    (e0 : r0 = P.renL (List.range many) z0) (e1 : r1 = P.renL (ordOf nums many) z1) (hi0 : r0.image.length ≤ 6 ∧ ∀ p ∈ r0.image, p ≤ 6) (hi1 : r1.image.length ≤ 6 ∧ ∀ p ∈ r1.image, p ≤ 6)
    (m0 : P.Mv (2 ^ many) (P.movedL r0.image)) (m1 : P.Mv (2 ^ many) (P.movedL r1.image)) (u0 : P.unit r0.turn) (u1 : P.unit r1.turn) (ek : ks = P.kindsL (P.movedL r0.image) (P.movedL r1.image) r0.turn r1.turn many)
    (hks : ∀ k ∈ ks, k.1 < 64 ∧ k.2.1 ≤ many) (hkl : ks.length ≤ 64)
    (hrow : ∀ i, i ≤ many → rowsOf (hdRows ks) (Txt.lower (cx i)) = (dueL ks many).getD i [])
    (hw : ∀ r ∈ dueL ks many, r.length ≤ 64 ∧ ∀ w ∈ r, (Txt.upper w).cps.size < 100)
    (hok : ∀ r ∈ dueL ks many, ∀ w ∈ r, PyData.strOk w = true)
    (hrise : ∀ i r0 r1, i < 3 → (dueL ks many)[i]? = some r0 → (dueL ks many)[i + 1]? = some r1 → Rise r0.length (great r0) r1.length (great r1))
    (hcomp : ∀ i r0 r1, i < 3 → (dueL ks many)[i]? = some r0 → (dueL ks many)[many - i]? = some r1 → r1.length = r0.length ∧ great r1 = great r0)
    (h : ∀ g' s', AllBare g' → (∃ ps, St c g' K ((330, ExO (tabObj ps)) :: own) s') → Nq (.ret (.bool true)) s') :
    wpAny (model prog w) A (execs (lawFd.B.drop 5) env) Nq (fun _ _ => False) s₁ := by
  have hK0 := S.le
  have hcm : CelF env "many" (L + 1) := ⟨.inl (by unfold Env.kindOf; rw [hsc]; rfl), by rw [hcs]; rfl, by decide, by decide⟩
  have hop := ord_perm nums hm5
  have hol : ∀ i ∈ ordOf nums many, i < many := fun i hi => List.mem_range.mp (hop.mem_iff.mp hi)
  have hng : ∀ j, j < many → nums[j]? = some (nums.getD j 0) := fun j hj => by
    rw [List.getD_eq_getElem?_getD, List.getElem?_eq_getElem (by exact om21 hnl hj)]; rfl
  kspl_open gv
  kspl_open go
  refine wpAny_Call_Name_kw ?_
  kspl_open go
  refine callWith_kw ?_
  kspl_open go
  have hc := hcm
  kspl_open cel
  clear hc
  kspl_open go
  refine c_range S fun r s₁ K₁ hle₁ S hr => ?_
  kspl_open go
  refine kws_cons ?_
  have hG := hG.mono hle₁
  have hX := hX.mono hle₁
  have hB := hB.mono hle₁
  have rN := rN.mono hle₁
  have rW := rW.mono hle₁
  have rDr := rDr.mono hle₁
  refine' lam_make (clos := [("words", L + 6)]) (ps := #[]) S he hB (fun c' => ?zu) hcode (fun h hh => codeHd_of_K (fun a o e => hh a o (hX a o e)) (hd_law Pp)) (show TriplesOk [] from trivial) rfl rfl ?zc ?_
  case zu => kspl_open ou
  case zc =>
    rw [closureFor_of (fun y hy hf => ?_), hcs]
    · rfl
    · rw [hcs]
      have : y ∈ [(("k" : Str), NameKind.local), ("words", .free), ("_strxfrm", .globalImplicit)] := hy
      simp only [List.mem_cons, List.not_mem_nil, or_false] at this
      rcases this with rfl | rfl | rfl
      · cases hf
      · exact ⟨_, rfl⟩
      · cases hf
  intro f c' s₁ K₂ hle₂ hLam S
  refine kws_nil ?_
  show wpAny _ _ (call (.builtin "sorted") [.ref r] [(Str.ofString "key", .ref f)]) _ _ _
  have hG := hG.mono hle₂
  have hX := hX.mono hle₂
  have hB := hB.mono hle₂
  have rN := rN.mono hle₂
  have rW := rW.mono hle₂
  have rDr := rDr.mono hle₂
  refine c_sortKey (f := .ref f) (I := fun j K' ks => RdAll K' ks ((nums.take j).map fun m => PyData.str (ap m))) (lt := lt1 nums) S hA.handled (hr.mono hle₂) (by exact om353 hm5) (by exact om352 hm5) (tree_ok hm5) (ksk_s1 _ _) (fun x => ksk_l1 (.ref x) _) (fun x => ksk_t1 _ x) .nil ?_ ?_ ?_
  · intro j t K' ks s₁ own1 hj hle' hI S
    refine wpAny_call (code_lam (names := ["k"]) (gn := ["_strxfrm"]) (vals := [some (.int (j : Nat) t)]) (bs := [(("k" : Str), .int (j : Nat) t)]) (n := k + 1) S (hLam.mono hle') (hG.mono hle') hA.in1.in1 rfl rfl rfl (by decide) (by decide +kernel) (by decide +kernel) (by decide +kernel) (fun _ _ _ => rfl) (fun y => ?_) (fun x hx => by rw [List.mem_singleton.mp hx]; rfl) fun L' env' s₁ hL' hA' he' hcs' hsc' S => ?_)
    · by_cases e : y = "k" <;> simp [vm, e]
    have he := he'
    have hA := hA'
    have hG := hG.mono hle'
    have hX := hX.mono hle'
    have hc : CelF env' "words" (L + 6) := ⟨.inr (by unfold Env.kindOf; rw [hsc']; rfl), by rw [hcs']; rfl, by decide, by decide⟩
    kspl_open go
    refine callWith_K (hX.in_ S) (k_xfrm Pp) ?_
    kspl_open go
    refine ev_cell S he hc (List.mem_cons_of_mem _ (List.mem_append_right _ (List.mem_cons_of_mem _ List.mem_cons_self))) ?_
    kspl_open go
    refine sub_rd S (rW.mono hle') (i := j) (d := PyData.str (ap (nums.getD j 0))) rfl (by rw [List.getElem?_map, List.getElem?_map, hng j hj]; rfl) (by exact om348 hm5 hj) fun v rv => ?_
    kspl_open go
    refine ⟨hX.in_ S, xfrm_spec (k := k) (f_xfrm hX) hG S.kept hA fun s₁ rr => ?_⟩
    have S := S.call rr
    clear rr
    refine ⟨K', Le.refl _, ?_, S.drop0⟩
    rw [List.take_add_one, hng j hj, List.map_append]
    exact hI.append (.cons rv .nil)
  · intro K' ks s₁ own1 hle' hkl' hI S
    rw [List.take_of_length_le (by exact om20 hnl)] at hI
    refine ⟨oneType', fun Q' q => kas_kind (T := .type "str") (by exact om354 hm5 hkl') (fun v hv => ?_) rfl rfl q, fun i j C hi hj hC => ?_⟩
    · refine notnot fun hGoal => ?_
      obtain ⟨i, hi, rfl⟩ := List.getElem_of_mem hv
      refine hGoal ?_
      clear hGoal
      have hin : i < nums.length := by rw [hkl'] at hi; exact om21 hnl hi
      have := getD_rd (i := i) (a := nums[i]) hI (List.getElem?_eq_getElem hin)
      rw [List.getD_eq_getElem?_getD, List.getElem?_eq_getElem hi] at this
      obtain ⟨t, e⟩ := this.strE
      have e : ks[i] = Value.str _ t := e
      rw [e]
      exact looks_str _ _
    · obtain ⟨t, e⟩ := (getD_rd (i := i) hI (hng i hi)).strE
      obtain ⟨u, e2⟩ := (getD_rd (i := j) hI (hng j hj)).strE
      rw [e, e2]
      exact kas_lt_str hC
  intro D1 s₁ K₃ vs hle₃ hvl hvs S
  have S := S.swap
  obtain ⟨o1, ho1, S⟩ := S.freeze1 (S.out fun a ha => by
    rcases hmu a ha with rfl | ⟨Q, hQ⟩
    · exact ⟨_, by simp only [List.mem_cons]; exact .inr (.inr (.inr (.inr (.inr (.inr (.inl rfl))))))⟩
    · exact ⟨Q, by simp only [List.mem_cons]; exact .inr (.inr (.inr (.inr (.inr (.inr (.inr hQ))))))⟩)
  have hle4 := hle₃.trans (le_add K₃ D1 o1)
  have rO : Rd (K₃.add D1 o1) (.ref D1) (dInts (ordOf nums many)) := ho1.rd (.inr ⟨rfl, rfl⟩) (out_rd hvs _ hol)
  have hG := hG.mono hle4
  have hX := hX.mono hle4
  have hB := hB.mono hle4
  have rN := rN.mono hle4
  have rDr := rDr.mono hle4
  clear hvs hvl
  kspl_open go
  refine wpAny_Call_Name_kw ?_
  kspl_open go
  refine callWith_kw ?_
  kspl_open go
  have hc := hcm
  kspl_open cel
  clear hc
  kspl_open go
  refine c_range S fun r2 s₁ K₄ hle₅ S hr2 => ?_
  kspl_open go
  refine kws_cons ?_
  have hG := hG.mono hle₅
  have hX := hX.mono hle₅
  have hB := hB.mono hle₅
  have rN := rN.mono hle₅
  have rDr := rDr.mono hle₅
  have rO := rO.mono hle₅
  refine' lam_make (clos := [("numbers", L + 5)]) (ps := #[] ++ #[rawInt _, rawInt _, .ref c']) S he hB (fun c' => ?zu) hcode (fun h hh => codeHd_of_K (fun a o e => hh a o (hX a o e)) (hd_law Pp)) ?zt ?zn rfl ?zc ?_
  case zu => kspl_open ou
  case zt => exact TriplesOk_snoc _ _ _ [] trivial
  case zn => rfl
  case zc =>
    rw [closureFor_of (fun y hy hf => ?_), hcs]
    · rfl
    · rw [hcs]
      have : y ∈ [(("k" : Str), NameKind.local), ("numbers", .free)] := hy
      simp only [List.mem_cons, List.not_mem_nil, or_false] at this
      rcases this with rfl | rfl
      · cases hf
      · exact ⟨_, rfl⟩
  intro f2 c2 s₁ K₅ hle₆ hLam2 S
  refine kws_nil ?_
  show wpAny _ _ (call (.builtin "sorted") [.ref r2] [(Str.ofString "key", .ref f2)]) _ _ _
  have hG := hG.mono hle₆
  have hX := hX.mono hle₆
  have hB := hB.mono hle₆
  have rN := rN.mono hle₆
  have rDr := rDr.mono hle₆
  have rO := rO.mono hle₆
  refine c_sortKey (f := .ref f2) (I := fun j K' ks => RdAll K' ks ((nums.take j).map fun m => PyData.tuple [dI (kA m), dI (kB m)])) (lt := lt2 nums) S hA.handled (hr2.mono hle₆) (by exact om353 hm5) (by exact om352 hm5) (tree_ok hm5) (ksk_s1 _ _) (fun x => ksk_l1 (.ref x) _) (fun x => ksk_t1 _ x) .nil ?_ ?_ ?_
  · intro j t K' ks s₁ own1 hj hle' hI S
    refine wpAny_call (code_lam (names := ["k"]) (gn := []) (vals := [some (.int (j : Nat) t)]) (bs := [(("k" : Str), .int (j : Nat) t)]) (n := k + 1) S (hLam2.mono hle') (hG.mono hle') hA.in1.in1 rfl rfl rfl (by decide) (by decide +kernel) (fun _ h => nomatch h) (by decide +kernel) (fun _ _ _ => rfl) (fun y => ?_) (fun x hx => by rw [List.mem_singleton.mp hx]; rfl) fun L' env' s₁ hL' hA' he' hcs' hsc' S => ?_)
    · by_cases e : y = "k" <;> simp [vm, e]
    have he := he'
    have hA := hA'
    have hG := hG.mono hle'
    have hX := hX.mono hle'
    have hc : CelF env' "numbers" (L + 5) := ⟨.inr (by unfold Env.kindOf; rw [hsc']; rfl), by rw [hcs']; rfl, by decide, by decide⟩
    have hcel : ∀ {E : Value → Shared → Prop} {pos : Pos} {Q : Value → Shared → Prop} {K' : KP} {s : Shared} {A : Around} {l : Own} {pL : Pr}, St c g K' ((L', FrO ["k"] [some (.int (j : Nat) t)]) :: (own1 ++ ((L, pL) :: (L + 6, CellO (some vW)) :: (L + 5, CellO (some vN)) :: l))) s → Q vN s → wpAny (model prog w) A (eval (.Name "numbers" pos) env') Q E s := fun S q =>
      ev_cell S he hc (List.mem_cons_of_mem _ (List.mem_append_right _ (List.mem_cons_of_mem _ (List.mem_cons_of_mem _ List.mem_cons_self)))) q
    have hnj : nums[j]? = some (nums.getD j 0) := hng j hj
    have fin : ∀ (K'' : KP) (v : Value) (_s' : Shared), Le K' K'' → Rd K'' v (.tuple [dI (kA (nums.getD j 0)), dI (kB (nums.getD j 0))]) → RdAll K'' (ks ++ [v]) ((nums.take (j + 1)).map fun m => PyData.tuple [dI (kA m), dI (kB m)]) := fun K'' v _ hl hv => by
      rw [List.take_add_one, hnj, List.map_append]
      exact (hI.mono hl).append (.cons hv .nil)
    generalize nums.getD j 0 = m at hnj fin
    have hgj : (nums.map dI)[j]? = some (dI m) := by rw [List.getElem?_map, hnj]; rfl
    kspl_open go
    refine hcel S ?_
    kspl_open go
    refine sub_rd S (rN.mono hle') (i := j) rfl hgj (by exact om348 hm5 hj) fun v rv => ?_
    obtain ⟨tv, rfl⟩ := rv.intE
    kspl_open go
    refine ite_d (fun hb => ?_) fun hb => ?_
    · have hb : m < 16 := by exact om351 hb
      kspl_open go
      refine hcel S ?_
      kspl_open go
      refine sub_rd S (rN.mono hle') (i := j) rfl hgj (by exact om348 hm5 hj) fun v rv => ?_
      obtain ⟨tv, rfl⟩ := rv.intE
      refine b_mul S (IntMulOk.of_left (by decide +kernel)) fun t s₁ S => ?_
      kspl_open go
      refine nw_tuple S (.cons (.int _ _) (.cons (.int _ _) .nil)) fun aT s₁ K'' hl S rT => ?_
      refine ⟨K'', hl, fin K'' _ s₁ hl ?_, S.drop0⟩
      have e1 : ((kA m : Nat) : Int) = 16 * (m : Int) := by unfold kA; rw [if_pos hb]; exact om350
      have e2 : ((kB m : Nat) : Int) = 1 := by unfold kB; rw [if_pos hb]; rfl
      show Rd K'' _ (.tuple [.int _, .int _])
      rw [e1, e2]
      exact rT
    · have hb : ¬ m < 16 := by exact om349 hb
      kspl_open go
      refine hcel S ?_
      kspl_open go
      refine sub_rd S (rN.mono hle') (i := j) rfl hgj (by exact om348 hm5 hj) fun v rv => ?_
      obtain ⟨tv, rfl⟩ := rv.intE
      kspl_open go
      refine nw_tuple S (.cons (.int _ _) (.cons (.int _ _) .nil)) fun aT s₁ K'' hl S rT => ?_
      refine ⟨K'', hl, fin K'' _ s₁ hl ?_, S.drop0⟩
      have e1 : ((kA m : Nat) : Int) = (m : Int) := by unfold kA; rw [if_neg hb]
      have e2 : ((kB m : Nat) : Int) = 2 := by unfold kB; rw [if_neg hb]; rfl
      show Rd K'' _ (.tuple [.int _, .int _])
      rw [e1, e2]
      exact rT
  · intro K' ks s₁ own1 hle' hkl' hI S
    rw [List.take_of_length_le (by exact om20 hnl)] at hI
    have hI2 : RdAll K' ks ((nums.map fun m => (((kA m : Nat) : Int), ((kB m : Nat) : Int))).map fun p => PyData.tuple [.int p.1, .int p.2]) := by rw [List.map_map]; exact hI
    refine notnot fun hGoal => ?_
    obtain ⟨fs, f1, f2, f3⟩ := kat_tups S.kept hI2
    refine hGoal ?_
    clear hGoal
    refine ⟨tuples' true, fun Q' q => kat_kind (T := .type "int") f1 (by rw [f2, List.length_map]; exact om347 hnl hm5) (fun v hv => ?_) rfl q, fun i j C hi hj hC => ?_⟩
    · refine notnot fun hGoal => ?_
      obtain ⟨x, t, rfl⟩ := f3 v hv
      refine hGoal ?_
      clear hGoal
      exact looks_int _ _
    · have ri := getD_rd (i := i) hI (hng i hi)
      have rj := getD_rd (i := j) hI (hng j hj)
      refine lt_tups S.kept ri rj ?_
      have : (if ((kA (nums.getD i 0) : Nat) : Int) = ((kA (nums.getD j 0) : Nat) : Int) then decide (((kB (nums.getD i 0) : Nat) : Int) < ((kB (nums.getD j 0) : Nat) : Int)) else decide (((kA (nums.getD i 0) : Nat) : Int) < ((kA (nums.getD j 0) : Nat) : Int))) = lt2 nums i j := by
        unfold lt2 ltK
        by_cases e : kA (nums.getD i 0) = kA (nums.getD j 0)
        · rw [if_pos e, if_pos (by rw [e])]; simp
        · rw [if_neg e, if_neg (by exact om79 e)]; simp
      rw [this]
      exact hC
  intro D2 s₁ K₆ vs hle₇ hvl hvs S
  have S := S.swap
  obtain ⟨o2, ho2, S⟩ := S.freeze1 (S.out fun a ha => by
    rcases hmu a ha with rfl | ⟨Q, hQ⟩
    · exact ⟨_, by simp only [List.mem_cons]; exact .inr (.inr (.inr (.inr (.inr (.inr (.inl rfl))))))⟩
    · exact ⟨Q, by simp only [List.mem_cons]; exact .inr (.inr (.inr (.inr (.inr (.inr (.inr hQ))))))⟩)
  have hle8 := hle₇.trans (le_add K₆ D2 o2)
  have rO2 : Rd (K₆.add D2 o2) (.ref D2) (dInts (ordOf nums many)) := ho2.rd (.inr ⟨rfl, rfl⟩) (by
    rw [ord_same hm5 hnl hnn]
    exact out_rd hvs _ hol)
  have rO := rO.mono hle8
  have hG := hG.mono hle8
  have hX := hX.mono hle8
  have hB := hB.mono hle8
  have rDr := rDr.mono hle8
  have hsh : SeqAt.shaped (dInts (ordOf nums many)) = true := by
    obtain ⟨h1, h2⟩ := ints_shaped (ordOf nums many)
    unfold SeqAt.shaped
    rw [h1, Bool.true_and]
    exact decide_eq_true (by exact om346 h2)
  refine ne_rd S rO rO2 hsh hsh hA ?_
  have heq : PyData.eqv (dInts (ordOf nums many)) (dInts (ordOf nums many)) = true := by
    simp [PyData.eqv, eqv_nats]
  rw [heq, Bool.not_true]
  kspl_open go
  rw [if_neg Bool.false_ne_true]
  kspl_open one
  refine hNn _ _ ?_
  kspl_open bk
  refine law_C S hL he hcs hsc (List.mem_cons_of_mem _ hT) (fun a ha => ?_) hX hG hB hA hgb rDr hD9 hx1 hx2 rO hop hm5 ez0 ez1 e0 e1 hi0 hi1 m0 m1 u0 u1 ek hks hkl hrow hw hok hrise hcomp fun g' s' hg' S => h g' s' hg' ⟨_, S.shrink hK0 (hle₁.trans (hle₂.trans (hle4.trans (hle₅.trans (hle₆.trans hle8)))))⟩
  rcases hmu a ha with rfl | ⟨Q, hQ⟩
  · exact ⟨_, List.mem_cons_self⟩
  · exact ⟨Q, List.mem_cons_of_mem _ hQ⟩
end

section
section
set_option maxRecDepth 100000
end
def drawsOf (xs : List Int) : List Int := xs.take 9 ++ ([0, 0, 5, 2, 0, 16, 32, 1, 3] : List Int).drop (xs.take 9).length
theorem draws_len (xs : List Int) : (drawsOf xs).length = 9 := by
  unfold drawsOf
  rw [List.length_append, List.length_drop, List.length_take]
  show min 9 xs.length + (9 - min 9 xs.length) = 9
  exact om374
def manyOf (x : Int) : Nat := 5 + (x.fmod 2).toNat
theorem many_facts (x : Int) : (5 : Int) + x.fmod 2 = ((manyOf x : Nat) : Int) ∧ (manyOf x = 5 ∨ manyOf x = 6) := by
  obtain ⟨h1, h2⟩ := fmod_bd x 2 (by decide)
  have h2 : x.fmod 2 < 2 := h2
  have h1 : 0 ≤ x.fmod 2 := h1
  unfold manyOf
  generalize x.fmod 2 = m at h1 h2
  exact om373 h1 h2
def numOf (x : Int) : Nat := 1 + (x.fmod 40).toNat
theorem num_facts (x : Int) : (1 : Int) + x.fmod 40 = ((numOf x : Nat) : Int) ∧ numOf x < 41 ∧ numOf x ≠ 0 := by
  obtain ⟨h1, h2⟩ := fmod_bd x 40 (by decide)
  have h2 : x.fmod 40 < 40 := h2
  have h1 : 0 ≤ x.fmod 40 := h1
  unfold numOf
  generalize x.fmod 40 = m at h1 h2
  exact om372 h1 h2
def numsOf (D : List Int) (n : Nat) : List Nat := ((D.drop 3).take n).map numOf
theorem neg_pow (j : Nat) : ((-1 : Int)) ^ j = 1 ∨ ((-1 : Int)) ^ j = -1 := by
  induction j with
  | zero => exact .inl rfl
  | succ j ih =>
    rw [Int.pow_succ]
    rcases ih with e | e <;> rw [e] <;> decide
theorem ints_shaped2 (l : List Nat) : SeqAt.shaped (dInts l) = true := by
  obtain ⟨h1, h2⟩ := ints_shaped l
  unfold SeqAt.shaped
  rw [h1, Bool.true_and]
  exact decide_eq_true (by exact om346 h2)
theorem tail_slice {α : Type} (l : List α) (m : Nat) (h : m ≤ l.length) : List.take ((none : Option Int).elim l.length (clipAt l.length) - (some (m : Int)).elim 0 (clipAt l.length)) (List.drop ((some (m : Int)).elim 0 (clipAt l.length)) l) = l.drop m := by
  show (l.drop (clipAt l.length (m : Int))).take (l.length - clipAt l.length (m : Int)) = _
  have e : clipAt l.length (m : Int) = m := by unfold clipAt; rw [if_neg (by exact om70)]; exact om369 h
  rw [e, List.take_of_length_le (by rw [List.length_drop]; exact om371)]
theorem head_slice {α : Type} (l : List α) : List.take ((some (9 : Int)).elim l.length (clipAt l.length) - (none : Option Int).elim 0 (clipAt l.length)) (List.drop ((none : Option Int).elim 0 (clipAt l.length)) l) = l.take 9 := by
  show (l.drop 0).take (clipAt l.length 9 - 0) = _
  rw [List.drop_zero, Nat.sub_zero]
  have e : clipAt l.length 9 = min 9 l.length := by unfold clipAt; rw [if_neg (by decide)]; exact om368
  rw [e]
  by_cases h9 : 9 ≤ l.length
  · rw [Nat.min_eq_left h9]
  · rw [Nat.min_eq_right (by exact om367 h9), List.take_of_length_le (Nat.le_refl _), List.take_of_length_le (by exact om367 h9)]
theorem mid_slice {α : Type} (l : List α) (a b : Nat) (h : a ≤ b) (hb : b ≤ l.length) : List.take ((some (b : Int)).elim l.length (clipAt l.length) - (some (a : Int)).elim 0 (clipAt l.length)) (List.drop ((some (a : Int)).elim 0 (clipAt l.length)) l) = (l.drop a).take (b - a) := by
  show (l.drop (clipAt l.length (a : Int))).take (clipAt l.length (b : Int) - clipAt l.length (a : Int)) = _
  have e : clipAt l.length (a : Int) = a := by unfold clipAt; rw [if_neg (by exact om70)]; exact om370 h hb
  have e2 : clipAt l.length (b : Int) = b := by unfold clipAt; rw [if_neg (by exact om70)]; exact om369 hb
  rw [e, e2]
set_option maxRecDepth 100000 in
set_option maxHeartbeats 4000000 in
theorem law_A {prog : Program} {w : World} {A : Around} {c : Cx} {g : Gs} {K : KP} {own : Own} {s₁ : Shared} {env : Env} {L : Addr} {k many : Nat} {vS : Value} {nums z0 z1 : List Nat} {xs D : List Int} {x0 x1 x2 : Int} {r0 r1 : P.RS} {ks : List P.Kind} {Pp : Params} {Nq : Flow → Shared → Prop}
    (S : St c g K ((L, FrO lawN [some vS, none, none, none, none, none, none, none, none, none, none, none, none]) :: (L + 6, CellO none) :: (L + 5, CellO none) :: (L + 4, CellO none) :: (L + 3, CellO none) :: (L + 2, CellO none) :: (L + 1, CellO none) :: (330, ExO (tabObj #[])) :: own) s₁)
    (hL : c.h0.objs.size ≤ L) (he : EnvF env L lawN lawG) (hcs : env.cells = lawC L) (hsc : env.scope = lawFd.S) (hcode : env.code = .ref 332) (hT : (106, TabO) ∈ own) (hmu : ∀ a ∈ c.mu, a = 330 ∨ ∃ P, (a, P) ∈ own) (hX : InK (KFh Pp) K) (hG : GB K gl bl) (hB : BMK K) (hA : AOk A (k + 4)) (hgb : AllBare g)
    (rXs : Rd K vS (.list (xs.map PyData.int))) (hxs : xs.length < 2 ^ 20) (eD : D = drawsOf xs) (hx0 : D[0]? = some x0) (em : many = manyOf x0) (en : nums = numsOf D many)
    (hx1 : D[1]? = some x1) (hx2 : D[2]? = some x2) (ez0 : z0 = P.plainL (rA many x1) (rB x1) many) (ez1 : z1 = P.plainL (rA many x2) (rB x2) many)
    (e0 : r0 = P.renL (List.range many) z0) (e1 : r1 = P.renL (ordOf nums many) z1) (hi0 : r0.image.length ≤ 6 ∧ ∀ p ∈ r0.image, p ≤ 6) (hi1 : r1.image.length ≤ 6 ∧ ∀ p ∈ r1.image, p ≤ 6)
    (m0 : P.Mv (2 ^ many) (P.movedL r0.image)) (m1 : P.Mv (2 ^ many) (P.movedL r1.image)) (u0 : P.unit r0.turn) (u1 : P.unit r1.turn) (ek : ks = P.kindsL (P.movedL r0.image) (P.movedL r1.image) r0.turn r1.turn many)
    (hks : ∀ k ∈ ks, k.1 < 64 ∧ k.2.1 ≤ many) (hkl : ks.length ≤ 64)
    (hrow : ∀ i, i ≤ many → rowsOf (hdRows ks) (Txt.lower (cx i)) = (dueL ks many).getD i [])
    (hw : ∀ r ∈ dueL ks many, r.length ≤ 64 ∧ ∀ w ∈ r, (Txt.upper w).cps.size < 100)
    (hok : ∀ r ∈ dueL ks many, ∀ w ∈ r, PyData.strOk w = true)
    (hrise : ∀ i r0 r1, i < 3 → (dueL ks many)[i]? = some r0 → (dueL ks many)[i + 1]? = some r1 → Rise r0.length (great r0) r1.length (great r1))
    (hcomp : ∀ i r0 r1, i < 3 → (dueL ks many)[i]? = some r0 → (dueL ks many)[many - i]? = some r1 → r1.length = r0.length ∧ great r1 = great r0)
    (h : ∀ g' s', AllBare g' → (∃ ps, St c g' K ((330, ExO (tabObj ps)) :: own) s') → Nq (.ret (.bool true)) s') :
    wpAny (model prog w) A (execs lawFd.B env) Nq (fun _ _ => False) s₁ := by
  have hK0 := S.le
  have hD9 : D.length = 9 := by rw [eD]; exact draws_len xs
  have hcm : CelF env "many" (L + 1) := ⟨.inl (by unfold Env.kindOf; rw [hsc]; rfl), by rw [hcs]; rfl, by decide, by decide⟩
  have hcn : CelF env "numbers" (L + 5) := ⟨.inl (by unfold Env.kindOf; rw [hsc]; rfl), by rw [hcs]; rfl, by decide, by decide⟩
  have hcw : CelF env "words" (L + 6) := ⟨.inl (by unfold Env.kindOf; rw [hsc]; rfl), by rw [hcs]; rfl, by decide, by decide⟩
  have hkm : env.kindOf "many" = some .cell := by unfold Env.kindOf; rw [hsc]; rfl
  have hkn : env.kindOf "numbers" = some .cell := by unfold Env.kindOf; rw [hsc]; rfl
  have hkw : env.kindOf "words" = some .cell := by unfold Env.kindOf; rw [hsc]; rfl
  have out : ∀ {K : KP} {g : Gs} {p : Addr × Pr} {d : Addr} {Q : Pr} {a b e : Pr} {s : Shared}, St c g K (p :: (d, Q) :: (L + 6, a) :: (L + 5, b) :: (L + 4, CellO none) :: (L + 3, CellO none) :: (L + 2, CellO none) :: (L + 1, e) :: (330, ExO (tabObj #[])) :: own) s → d ∉ c.mu := fun S => S.out fun x hx => by
    rcases hmu x hx with rfl | ⟨Q, hQ⟩
    · exact ⟨_, by simp only [List.mem_cons]; exact .inr (.inr (.inr (.inr (.inr (.inr (.inl rfl))))))⟩
    · exact ⟨Q, by simp only [List.mem_cons]; exact .inr (.inr (.inr (.inr (.inr (.inr (.inr hQ))))))⟩
  have hx20 : (xs.map PyData.int).length ≤ 2 ^ 24 := by exact om366 hxs (List.length_map ..)
  kspl_open gv
  kspl_open go
  refine sl_rd S rXs .none (.int _ _) hx20 (head_slice _) fun d1 s₁ us1 ru1 S => ?_
  kspl_open go
  refine nw_list S fun d2 s₁ S => ?_
  kspl_open go
  refine sl_rd S rXs .none (.int _ _) hx20 (head_slice _) fun d3 s₁ us3 ru3 S => ?_
  kspl_open go
  have l9 : us3.length = (xs.take 9).length := by rw [ru3.length, ← List.map_take, List.length_map]
  refine' c_len (vs := us3) S (St.listAt S ?zm) (by rw [l9, List.length_take]; exact om365) ?_
  case zm => kspl_open me
  clear S
  intro t s₁ S
  kspl_open go
  refine' sl_isl (ds := ([0, 0, 5, 2, 0, 16, 32, 1, 3] : List Int).map PyData.int) S (St.listAt S ?zm) ?zr (.int _ _) .none ?zl (tail_slice _ _ ?zk) ?_
  case zm => kspl_open me
  case zr => exact .cons (.int _ _) (.cons (.int _ _) (.cons (.int _ _) (.cons (.int _ _) (.cons (.int _ _) (.cons (.int _ _) (.cons (.int _ _) (.cons (.int _ _) (.cons (.int _ _) .nil))))))))
  case zl => show 9 ≤ 2 ^ 24; decide
  case zk => rw [l9, List.length_take]; exact Nat.min_le_left _ _
  clear S
  intro d4 s₁ us4 ru4 S
  kspl_open go
  refine' b_cat S (S.owned (d1, LpO us1) ?zm) (S.owned (d4, LpO us4) ?zn) ?_ ?_
  case zm => kspl_open me
  case zn => kspl_open me
  · show _ ≤ 2 ^ 24
    rw [ru1.length, ru4.length, List.length_take, List.length_drop]
    simp only [List.length_map, List.length_cons, List.length_nil]
    exact Nat.le_trans (Nat.add_le_add (Nat.min_le_left _ _) (Nat.sub_le _ _)) (by decide)
  clear S
  intro d5 s₁ S
  have rD0 : RdAll K (us1 ++ us4) (D.map PyData.int) := by
    rw [eD, drawsOf, List.map_append, List.map_take, List.map_drop, ← l9]
    exact ru1.append ru4
  refine St.frzL S.drop2.drop2.drop2.drop2 (out S.drop2.drop2.drop2.drop2) rD0 fun K₁ hle1 rc S => ?_
  have rDr := rc.rd
  clear rc rD0 ru1 ru3 ru4 l9
  have hG := hG.mono hle1
  have hX := hX.mono hle1
  have hB := hB.mono hle1
  obtain ⟨q1, q2⟩ := many_facts x0
  rw [← em] at q1 q2
  kspl_open go
  refine sub_rdI S rDr (i := 0) (gm hx0) (by decide) fun tv => ?_
  kspl_open go
  refine b_mod S (by decide) fun t s₁ S => ?_
  kspl_open go
  rw [q1]
  have hc := hcm
  have hk := hkm
  kspl_open stc
  clear hc hk
  kspl_open go
  refine x_set ?_ (swaps_cell he hkn)
  refine ev_comp (cl := []) (closureFor_none (by decide)) rfl (by decide) ?_
  kspl_open go
  have hc := hcm
  kspl_open cel
  clear hc
  kspl_open go
  rw [show (3 : Int) + ((many : Nat) : Int) = ((3 + many : Nat) : Int) from by exact om363]
  refine sl_rd S rDr (.int _ _) (.int _ _) (by rw [List.length_map, hD9]; decide) ((mid_slice _ 3 (3 + many) (by exact om362) (by rw [List.length_map, hD9]; exact om361 rfl q2)).trans (by rw [Nat.add_sub_cancel_left, ← List.map_drop, ← List.map_take])) fun d6 s₁ us6 ru6 S => ?_
  refine St.frzL S (out S) ru6 fun K₂ hle2 rc S => ?_
  have rE := rc.rd
  clear rc ru6
  have eE : nums = ((D.drop 3).take many).map numOf := en
  have hEl : ((D.drop 3).take many).length = many := by rw [List.length_take, List.length_drop, hD9]; exact om360 q2
  have hnn : ∀ m ∈ nums, m < 41 ∧ m ≠ 0 := by
    intro m hm
    rw [eE] at hm
    obtain ⟨x, _, rfl⟩ := List.mem_map.mp hm
    exact (num_facts x).2
  have hnl : nums.length = many := by rw [eE, List.length_map, hEl]
  generalize (D.drop 3).take many = E at rE eE hEl
  have hG := hG.mono hle2
  have hX := hX.mono hle2
  have hB := hB.mono hle2
  have rDr := rDr.mono hle2
  refine it_rd S hA.handled rE fun I s₁ S W => ?_
  refine cmp_map (cgn := []) (nums.map dI) S W.ints (by decide) rfl (comp_env he rfl (by decide) (fun _ h => nomatch h)) (by show _ ≤ 2 ^ 24; exact om356 q2 hEl) (by rw [List.length_map, hEl, hnl]) ?_ ?_
  · intro i K₃ ys s₁ PI2 C D' E' Nn hi hle₃ he' hC hNl x tx hx S
    have he := he'
    kspl_open go
    refine b_mod S (by decide) fun t s₁ S => ?_
    kspl_open go
    rw [(num_facts x).1]
    exact hNl _ _ _ _ _ (by rw [eE]; exact gm (gm hx)) (Le.refl _) (.int _ _) S
  intro K₃ ys s₁ d7 hle₃ hys S
  refine St.frzL S (out S) hys fun K₄ hle3 rc S => ?_
  have rN := rc.rd
  have hle3 := hle₃.trans hle3
  clear rc hys hle₃
  have hG := hG.mono hle3
  have hX := hX.mono hle3
  have hB := hB.mono hle3
  have rDr := rDr.mono hle3
  have hc := hcn
  have hk := hkn
  kspl_open stc
  clear hc hk
  kspl_open go
  refine x_set ?_ (swaps_cell he hkw)
  refine ev_comp (cl := [("numbers", L + 5)]) ?_ rfl (by decide) ?_
  · rw [closureFor_of (fun y hy hf => ?_), hcs]
    · rfl
    · rw [hcs]
      have : y ∈ [((".0" : Str), NameKind.local), ("k", .local), ("Int2AP", .globalImplicit), ("numbers", .free)] := hy
      simp only [List.mem_cons, List.not_mem_nil, or_false] at this
      rcases this with rfl | rfl | rfl | rfl
      · cases hf
      · cases hf
      · cases hf
      · exact ⟨_, rfl⟩
  kspl_open go
  have hc := hcm
  kspl_open cel
  clear hc
  kspl_open go
  refine c_range S fun r s₁ K₄ hle₄ S hr => ?_
  refine it_rng S hA.handled hr rfl (by rcases q2 with e | e <;> rw [e] <;> decide) fun I s₁ S W => ?_
  have hG := hG.mono hle₄
  have hX := hX.mono hle₄
  have hB := hB.mono hle₄
  have rDr := rDr.mono hle₄
  have rN := rN.mono hle₄
  refine cmp_map (cgn := ["Int2AP"]) (nums.map fun m => PyData.str (ap m)) S W (by decide) rfl (comp_env he rfl (by decide) (by decide +kernel)) (by show _ ≤ 2 ^ 24; exact om358 q2) (by rw [List.length_map, hnl]) ?_ ?_
  · intro i K₅ ys s₁ PI2 C D' E' Nn hi hle₅ he' hC hNl tv S
    have hcn := he'.cel hcn rfl rfl
    have he := he'
    have hni : nums[i]? = some (nums.getD i 0) := by
      rw [List.getD_eq_getElem?_getD, List.getElem?_eq_getElem (by exact om21 hnl hi)]; rfl
    have hnm := hnn _ (List.mem_of_getElem? hni)
    generalize nums.getD i 0 = m at hni hnm
    have hG := hG.mono hle₅
    have hX := hX.mono hle₅
    have rN := rN.mono hle₅
    kspl_open go
    refine callWith_K (hX.in_ S) (k_ap Pp) ?_
    kspl_open go
    have hc := hcn
    kspl_open cel
    clear hc
    kspl_open go
    refine sub_rdI S rN (i := i) (gm hni) (by exact om348 q2 hi) fun tv => ?_
    kspl_open go
    refine b_pow S (by exact om1) (by exact om357 q2 hi) (by decide) fun t s₁ S => ?_
    rw [Int.toNat_natCast]
    have hpw := neg_pow i
    have hmul : (m : Int) * (-1) ^ i = (m : Int) ∨ (m : Int) * (-1) ^ i = -(m : Int) := by rcases hpw with e | e <;> rw [e] <;> omega
    refine b_mul S (IntMulOk.of_right (by rcases hpw with e | e <;> rw [e] <;> decide +kernel)) fun t s₁ S => ?_
    kspl_open go
    refine ⟨hX.in_ S, ap_spec (k := k + 3) (f_ap hX) hG S.kept hA hmul hnm.2 (by exact om355 hnm.1) fun t K' s₁ rr => ?_⟩
    have S := S.call0 rr
    clear rr
    refine KBd.method ?_
    kspl_open go
    refine c_decode S (by exact om355 hnm.1) fun t s₁ S => ?_
    kspl_open go
    exact hNl _ _ _ _ _ (gm hni) (Le.refl _) (.str _ _) S
  intro K₅ ys s₁ d8 hle₅ hys S
  refine St.frzL S (out S) hys fun K₆ hle4 rc S => ?_
  have rW := rc.rd
  have hle4 := hle₅.trans hle4
  clear rc hys hle₅
  have hG := hG.mono hle4
  have hX := hX.mono hle4
  have hB := hB.mono hle4
  have rDr := rDr.mono hle4
  have rN := rN.mono hle4
  have hc := hcw
  have hk := hkw
  kspl_open stc
  clear hc hk
  kspl_open go
  refine ev_comp (cl := []) (closureFor_none (by decide)) rfl (by decide) ?_
  kspl_open go
  have hc := hcw
  kspl_open cel
  clear hc
  refine it_rd S hA.handled rW fun I s₁ S W => ?_
  refine cmp_map (cgn := ["_law_read"]) (nums.map dI) S W.strs (by decide) rfl (comp_env he rfl (by decide) (by decide +kernel)) (by show _ ≤ 2 ^ 24; exact om356 q2 hnl) (by rw [List.length_map]) ?_ ?_
  · intro i K₇ ys s₁ PI2 C D' E' Nn hi hle₅ he' hC hNl m tw hm S
    have hnm := hnn _ (List.mem_of_getElem? hm)
    have hG := hG.mono hle₅
    have hX := hX.mono hle₅
    have he := he'
    kspl_open go
    refine callWith_K (hX.in_ S) (k_read Pp) ?_
    kspl_open go
    refine ⟨hX.in_ S, read_spec (k := k + 3) (f_read hX) hG S.kept hA hnm.2 (by exact om355 hnm.1) fun t K' s₁ rr => ?_⟩
    have S := S.call0 rr
    clear rr
    kspl_open go
    exact hNl _ _ _ _ _ (gm hm) (Le.refl _) (.int _ _) S
  intro K₇ ys s₁ d9 hle₅ hys S
  refine St.frzL S (out S) hys fun K₈ hle5 rc S => ?_
  have rV := rc.rd
  have hle5 := hle₅.trans hle5
  clear rc hys hle₅
  have hG := hG.mono hle5
  have hX := hX.mono hle5
  have hB := hB.mono hle5
  have rDr := rDr.mono hle5
  have rN := rN.mono hle5
  have rW := rW.mono hle5
  kspl_open go
  have hc := hcn
  kspl_open cel
  clear hc
  refine ne_rd S rV rN (ints_shaped2 _) (ints_shaped2 _) hA ?_
  have heq : PyData.eqv (dInts nums) (dInts nums) = true := by
    simp [PyData.eqv, eqv_nats]
  rw [heq, Bool.not_true]
  kspl_open go
  rw [if_neg Bool.false_ne_true]
  kspl_open one
  refine hNn _ _ ?_
  kspl_open bk
  exact law_B S hL he hcs hsc hcode hT hmu hX hG hB hA hgb rN (by rw [List.map_map]; exact rW) hnl hnn rDr hD9 hx1 hx2 q2 ez0 ez1 e0 e1 hi0 hi1 m0 m1 u0 u1 ek hks hkl hrow hw hok hrise hcomp fun g' s' hg' ⟨ps, S⟩ => h g' s' hg' ⟨ps, S.shrink hK0 (hle1.trans (hle2.trans (hle3.trans (hle₄.trans (hle4.trans hle5)))))⟩
end

section
section
set_option maxRecDepth 100000
variable {P : Params} {K : KP}
end
/-- all that the plain law must give of the draws -/
structure LawP (many : Nat) (r0 r1 : P.RS) (ks : List P.Kind) : Prop where
  i0 : r0.image.length ≤ 6 ∧ ∀ p ∈ r0.image, p ≤ 6
  i1 : r1.image.length ≤ 6 ∧ ∀ p ∈ r1.image, p ≤ 6
  m0 : P.Mv (2 ^ many) (P.movedL r0.image)
  m1 : P.Mv (2 ^ many) (P.movedL r1.image)
  u0 : P.unit r0.turn
  u1 : P.unit r1.turn
  kb : ∀ k ∈ ks, k.1 < 64 ∧ k.2.1 ≤ many
  kl : ks.length ≤ 64
  row : ∀ i, i ≤ many → rowsOf (hdRows ks) (Txt.lower (cx i)) = (dueL ks many).getD i []
  w : ∀ r ∈ dueL ks many, r.length ≤ 64 ∧ ∀ w ∈ r, (Txt.upper w).cps.size < 100
  ok : ∀ r ∈ dueL ks many, ∀ w ∈ r, PyData.strOk w = true
  rise : ∀ i r0 r1, i < 3 → (dueL ks many)[i]? = some r0 → (dueL ks many)[i + 1]? = some r1 → Rise r0.length (great r0) r1.length (great r1)
  comp : ∀ i r0 r1, i < 3 → (dueL ks many)[i]? = some r0 → (dueL ks many)[many - i]? = some r1 → r1.length = r0.length ∧ great r1 = great r0
set_option maxRecDepth 100000 in
set_option maxHeartbeats 4000000 in
theorem law_code {prog : Program} {w : World} {A : Around} {c : Cx} {g : Gs} {K : KP} {own : Own} {s : Shared} {k many : Nat} {vS : Value} {xs D : List Int} {x0 x1 x2 : Int} {Pp : Params} {R : Result → Shared → Prop}
    (S : St c g K ((330, ExO (tabObj #[])) :: own) s) (hT : (106, TabO) ∈ own) (hmu : ∀ a ∈ c.mu, a = 330 ∨ ∃ P, (a, P) ∈ own) (hX : InK (KFh Pp) K) (hG : GB K gl bl) (hB : BMK K) (hA : AOk A (k + 5)) (hgb : AllBare g)
    (rXs : Rd K vS (.list (xs.map PyData.int))) (hxs : xs.length < 2 ^ 20) (eD : D = drawsOf xs) (hx0 : D[0]? = some x0) (hx1 : D[1]? = some x1) (hx2 : D[2]? = some x2) (em : many = manyOf x0)
    (hP : ∀ r0 r1, r0 = P.renL (List.range many) (P.plainL (rA many x1) (rB x1) many) → r1 = P.renL (ordOf (numsOf D many) many) (P.plainL (rA many x2) (rB x2) many) → LawP many r0 r1 (P.kindsL (P.movedL r0.image) (P.movedL r1.image) r0.turn r1.turn many))
    (h : ∀ g' s', AllBare g' → (∃ ps, St c g' K ((330, ExO (tabObj ps)) :: own) s') → R (.ok (.ret (.bool true))) s') :
    codeAny (model prog w) A (.call (.ref 333) ⟨[vS], []⟩) R s := by
  refine code_funX (names := lawN) (gn := lawG) (vals := [some vS, none, none, none, none, none, none, none, none, none, none, none, none]) (bs := [(("script" : Str), vS)]) (fun n => [("words", n + 5), ("numbers", n + 4), ("leads", n + 3), ("due", n + 2), ("book", n + 1), ("many", n)]) S (x_law hX) hG hA law_scope (fun _ _ _ _ => BindsTo.of_eq (by rfl)) ?_ (fun _ => rfl) ?_ ?_ ?_
  · intro y
    by_cases e : y = "script"
    · subst e; rfl
    · show (if _ then _ else _) = _
      simp [vm, e]
  · intro n p hp
    simp only [List.mem_cons, List.not_mem_nil, or_false] at hp
    rcases hp with rfl | rfl | rfl | rfl | rfl | rfl <;> rfl
  · intro n x hx
    rw [List.mem_singleton.mp hx]
    exact .inl rfl
  intro L env s₁ A Nn hL hA he hcs hsc hcode _ S hNn
  obtain ⟨i0, i1, m0, m1, u0, u1, ks, kl, row, w', ok, rise, comp⟩ := hP _ _ rfl rfl
  kspl_open bk
  exact law_A S hL he hcs hsc hcode hT hmu hX hG hB hA hgb rXs hxs eD hx0 em rfl hx1 hx2 rfl rfl rfl rfl i0 i1 m0 m1 u0 u1 rfl ks kl row w' ok rise comp fun g' s' a b => hNn _ _ (h g' s' a b)
end

section
/-- all the law asks of the mathematics -/
def LawAll : Prop := ∀ (xs D : List Int) (x0 x1 x2 : Int) (many : Nat), D = drawsOf xs → D[0]? = some x0 → D[1]? = some x1 → D[2]? = some x2 → many = manyOf x0 →
  ∀ r0 r1, r0 = P.renL (List.range many) (P.plainL (rA many x1) (rB x1) many) → r1 = P.renL (ordOf (numsOf D many) many) (P.plainL (rA many x2) (rB x2) many) → LawP many r0 r1 (P.kindsL (P.movedL r0.image) (P.movedL r1.image) r0.turn r1.turn many)
theorem callerOk : AOk callerA 10 := ⟨rfl, by decide +kernel, by decide +kernel⟩
set_option maxRecDepth 100000 in
theorem law_head {prog : Program} {w : World} {s₁ : Shared} {mg mb : Str → Option Value} {p : Program} {loose : List Str} {mean : ExcName → Option Value} {Pp : Params} (T : Top p loose mean mg mb s₁.heap) (KX : (KFh Pp).In s₁.heap) (hT8 : ∀ P ∈ [106, 330], s₁.heap.get? P = some (tabObj #[])) (hg : s₁.gens = #[])
    {a : Addr} {vs : List Value} {xs : List Int} (hL : s₁.heap.IsList a vs.toArray) (hI : IntsAre vs xs) (hlen : xs.length ≤ 63) (hP : LawAll) {R : Result → Shared → Prop}
    (h : ∀ s', OldK s₁.heap s'.heap → s'.os = s₁.os → AllBare s'.gens → R (.ok (.ret (.bool true))) s') : codeAny (model prog w) callerA (.call (.ref 333) ⟨[.ref a], []⟩) R s₁ := by
  have t1 := hT8 106 (by simp)
  have t2 := hT8 330 (by simp)
  have C1 : CodeHd s₁.heap 110 106 := codeHd_of_K KX (hd_fw Pp)
  have C2 : CodeHd s₁.heap 332 330 := codeHd_of_K KX (hd_law Pp)
  have ap : ∀ {b : Addr} {o : Obj}, s₁.heap.get? b = some o → o.cls ≠ .none → b ≠ 106 ∧ b ≠ 330 := by
    intro b o e hc
    constructor
    · rintro rfl
      rw [t1] at e; cases e; exact hc rfl
    · rintro rfl
      rw [t2] at e; cases e; exact hc rfl
  let K0 : KP := fun b o => s₁.heap.get? b = some o ∧ b ≠ 106 ∧ b ≠ 330
  have k0 : ∀ {b o}, K0 b o → s₁.heap.get? b = some o := fun h => h.1
  have S : St ⟨s₁.heap, K0, [106, 330], s₁.os⟩ s₁.gens K0 [(330, ExO (tabObj #[])), (106, TabO)] s₁ := by
    refine ⟨fun _ _ h => h, fun _ _ h => .inl h, fun _ _ h => h.1, fun _ _ h _ => h, Nat.le_refl _, fun p hp => ?_, fun p hp => ?_, fun b o hb p hp => ?_, by simp, rfl, rfl⟩
    · simp only [List.mem_cons, List.not_mem_nil, or_false] at hp
      rcases hp with rfl | rfl
      · exact ⟨_, t2, rfl⟩
      · exact ⟨_, t1, _, rfl, trivial⟩
    · simp only [List.mem_cons, List.not_mem_nil, or_false] at hp
      rcases hp with rfl | rfl <;> exact .inl (by simp)
    · simp only [List.mem_cons, List.not_mem_nil, or_false] at hp
      rcases hp with rfl | rfl
      · exact hb.2.2
      · exact hb.2.1
  have X : InK (KFh Pp) K0 := by
    intro b o e
    refine ⟨KX _ _ e, ?_, ?_⟩
    · rintro rfl
      rw [(kf_apart Pp).1] at e; cases e
    · rintro rfl
      rw [(kf_apart Pp).2] at e; cases e
  refine notnot fun hGoal => ?_
  obtain ⟨og, hog, nog⟩ := of_ns T.g
  refine hGoal ?_
  clear hGoal
  refine notnot fun hGoal => ?_
  obtain ⟨ob, hob, nob⟩ := of_ns T.b
  refine hGoal ?_
  clear hGoal
  refine notnot fun hGoal => ?_
  obtain ⟨ml, hml, hlim⟩ := T.nolimit
  refine hGoal ?_
  clear hGoal
  refine notnot fun hGoal => ?_
  obtain ⟨ol, hol, nol⟩ := of_ns hml
  refine hGoal ?_
  clear hGoal
  have hG : GB K0 gl bl := ⟨og, ob, ol, mg, mb, ml, ⟨hog, by decide, by decide⟩, nog, ⟨hob, by decide, by decide⟩, nob, ⟨hol, by decide, by decide⟩, nol, hlim, fun q hq => mg_of KX T.g (glob_all Pp q hq), fun q hq => by
    refine notnot fun hGoal => ?_
    obtain ⟨b1, b2, b3⟩ := blt_all (KFh := KFh) Pp q hq
    refine hGoal ?_
    clear hGoal
    exact ⟨mg_none_of KX T.g b1, by rw [T.builtins _ b3]; exact b2⟩⟩
  have hB : BMK K0 := by
    refine notnot fun hGoal => ?_
    obtain ⟨bm, o, b1, b2, b3, b4, b5, b6⟩ := T.bmain
    refine hGoal ?_
    clear hGoal
    exact ⟨bm, o, og, mg, ⟨hog, by decide, by decide⟩, nog, b1, b2, ⟨b3, ap b3 (by rw [b4]; nofun)⟩, b4, b5, b6⟩
  have hxs : Rd K0 (.ref a) (.list (xs.map PyData.int)) := by
    refine notnot fun hGoal => ?_
    obtain ⟨o, ho, hc, n, hd⟩ := hL
    refine hGoal ?_
    clear hGoal
    exact .list ⟨ho, ap ho (by rw [hc]; nofun)⟩ hc hd (by simpa using IntsAre.rd (K := K0) hI)
  have hD := draws_len xs
  obtain ⟨x0, hx0⟩ : ∃ x, (drawsOf xs)[0]? = some x := ⟨_, List.getElem?_eq_getElem (by exact om378 hD)⟩
  obtain ⟨x1, hx1⟩ : ∃ x, (drawsOf xs)[1]? = some x := ⟨_, List.getElem?_eq_getElem (by exact om377 hD)⟩
  obtain ⟨x2, hx2⟩ : ∃ x, (drawsOf xs)[2]? = some x := ⟨_, List.getElem?_eq_getElem (by exact om376 hD)⟩
  refine law_code (k := 5) S (List.mem_singleton.mpr rfl) (fun b hb => ?_) X hG hB callerOk (.of_eq hg) hxs (by exact om375 hlen) rfl hx0 hx1 hx2 rfl (hP xs _ x0 x1 x2 _ rfl hx0 hx1 hx2 rfl) fun g' s' hg' hS => ?_
  · simp only [List.mem_cons, List.not_mem_nil, or_false] at hb
    rcases hb with rfl | rfl
    · exact .inr ⟨TabO, List.mem_singleton.mpr rfl⟩
    · exact .inl rfl
  obtain ⟨ps, S⟩ := hS
  have g1 : ∃ ps, s'.heap.get? 106 = some (tabObj ps) := by
    refine notnot fun hGoal => ?_
    obtain ⟨o, ho, ps, rfl, _⟩ := S.owned (106, TabO) (by simp)
    refine hGoal ?_
    clear hGoal
    exact ⟨ps, ho⟩
  have g2 : ∃ ps, s'.heap.get? 330 = some (tabObj ps) := by
    refine notnot fun hGoal => ?_
    obtain ⟨o, ho, rfl⟩ := S.owned (330, ExO (tabObj ps)) (by simp)
    refine hGoal ?_
    clear hGoal
    exact ⟨ps, ho⟩
  refine h s' ⟨fun b o e => ?_, fun b o e => ?_⟩ S.os (by rw [S.gens]; exact hg')
  · by_cases hb : b ∈ ([106, 330] : List Addr)
    · have hb2 := hb
      simp only [List.mem_cons, List.not_mem_nil, or_false] at hb
      refine .inr (.inl ?_)
      rcases hb with rfl | rfl
      · rw [t1] at e; cases e
        obtain ⟨ps, hp⟩ := g1
        exact ⟨(C1.tab t1).isCodeTable, rfl, #[], ps, rfl, by rw [hp]; simp⟩
      · rw [t2] at e; cases e
        obtain ⟨ps, hp⟩ := g2
        exact ⟨(C2.tab t2).isCodeTable, rfl, #[], ps, rfl, by rw [hp]; simp⟩
    · exact .inl (S.base b o e hb)
  · by_cases hb : b ∈ ([106, 330] : List Addr)
    · simp only [List.mem_cons, List.not_mem_nil, or_false] at hb
      rcases hb with rfl | rfl
      · obtain ⟨ps, hp⟩ := g1; exact ⟨_, hp⟩
      · obtain ⟨ps, hp⟩ := g2; exact ⟨_, hp⟩
    · exact ⟨o, S.base b o e hb⟩
theorem law_end {KFh : Params → Frag} (hf : HF KFh) {prog : Program} {w : World} {s₁ : Shared} {mg mb : Str → Option Value} {p : Program} {loose : List Str} {mean : ExcName → Option Value} {Pp : Params} (T : Top p loose mean mg mb s₁.heap) (KX : (KFh Pp).In s₁.heap) (hT8 : ∀ P ∈ [106, 330], s₁.heap.get? P = some (tabObj #[])) (hg : s₁.gens = #[])
    {a : Addr} {vs : List Value} {xs : List Int} (hL : s₁.heap.IsList a vs.toArray) (hI : IntsAre vs xs) (hlen : xs.length ≤ 63) (hP : LawAll) {R : Result → Shared → Prop}
    (h : ∀ s', OldK s₁.heap s'.heap → s'.os = s₁.os → AllBare s'.gens → R (.ok (.ret (.bool true))) s') : codeAny (model prog w) callerA (.call (.ref 333) ⟨[.ref a], []⟩) R s₁ := by
  haveI := hf
  kspl_open bk
  exact law_head T KX hT8 hg hL hI hlen hP h
end

section
theorem due_fold (i : Nat) : ∀ (ks : List P.Kind) (rows : List (List Str)), (∀ k ∈ ks, k.2.1 < rows.length) → (ks.foldl (fun rows k => rows.set k.2.1 (rows.getD k.2.1 [] ++ [wd k.1 k.2.2])) rows).getD i [] = rows.getD i [] ++ (ks.filter fun k => k.2.1 == i).map fun k => wd k.1 k.2.2
  | [], rows, _ => by rw [List.foldl_nil, List.filter_nil, List.map_nil, List.append_nil]
  | k :: ks, rows, h => by
    rw [List.foldl_cons, due_fold i ks _ fun x hx => by rw [List.length_set]; exact h x (List.mem_cons_of_mem _ hx)]
    have hk := h k List.mem_cons_self
    by_cases e : k.2.1 = i
    · subst e
      rw [P.getD_set_eq _ _ _ _ hk, List.filter_cons, if_pos (beq_iff_eq.mpr rfl), List.map_cons, List.append_assoc]; rfl
    · rw [P.getD_set_ne _ _ _ e, List.filter_cons, if_neg (by rw [beq_iff_eq]; exact e)]
theorem due_at {ks : List P.Kind} {n : Nat} (h : ∀ k ∈ ks, k.2.1 ≤ n) (i : Nat) : (dueL ks n).getD i [] = (ks.filter fun k => k.2.1 == i).map fun k => wd k.1 k.2.2 := by
  unfold dueL
  rw [due_fold i ks _ fun k hk => by rw [List.length_replicate]; have := h k hk; exact om382 this]
  have : (List.replicate (n + 1) ([] : List Str)).getD i [] = [] := by
    simp [List.getD_eq_getElem?_getD, List.getElem?_replicate]; split <;> rfl
  rw [this, List.nil_append]
theorem wd_all : ∀ f : Nat, f < 64 → ∀ g : Bool, (wd f g == Txt.upper (wd f g)) = g ∧ (Txt.upper (wd f g)).cps.size < 100 ∧ PyData.strOk (wd f g) = true ∧ (if g = true then ap (64 + f) else Txt.lower (ap (64 + f))) = wd f g := by decide +kernel
theorem nm_all : ∀ z : Nat, z < 7 → ∀ i : Nat, i < 7 → (Txt.lower (ap (32 + z)) == Txt.lower (cx i)) = (z == i) ∧ (Txt.lower (Txt.lower (ap (32 + z))) == Txt.lower (cx i)) = (z == i) := by decide +kernel
theorem nm_is {k : P.Kind} {i : Nat} (hk : k.2.1 < 7) (hi : i < 7) : (Txt.lower (nmS k) == Txt.lower (cx i)) = (k.2.1 == i) := by
  unfold nmS
  split
  · exact (nm_all _ hk _ hi).2
  · exact (nm_all _ hk _ hi).1
theorem great_map (ks : List P.Kind) (h : ∀ k ∈ ks, k.1 < 64) : great (ks.map fun k => wd k.1 k.2.2) = (ks.filter fun k => k.2.2).length := by
  unfold great
  rw [List.filter_map, List.length_map]
  congr 1
  exact List.filter_congr fun k hk => (wd_all k.1 (h k hk) k.2.2).1
theorem law_all : LawAll := by
  intro xs D x0 x1 x2 many eD hx0 hx1 hx2 em r0 r1 e0 e1
  have hm : many = 5 ∨ many = 6 := by rw [em]; exact (many_facts x0).2
  obtain ⟨p0, u0⟩ := ren_perm (sizes := P.plainL (rA many x1) (rB x1) many) (List.Perm.refl (List.range many))
  obtain ⟨p1, u1⟩ := ren_perm (sizes := P.plainL (rA many x2) (rB x2) many) (ord_perm (numsOf D many) hm)
  rw [← e0] at p0 u0
  rw [← e1] at p1 u1
  clear e0 e1
  have im : ∀ {l : List Nat}, l.Perm (List.range many) → l.length ≤ 6 ∧ ∀ p ∈ l, p ≤ 6 := fun {l} hp => by
    rw [hp.length_eq, List.length_range]
    exact ⟨by exact om256 hm, fun p hpl => by have := List.mem_range.mp (hp.mem_iff.mp hpl); exact om381 hm this⟩
  have v0 := mov_of hm p0
  have v1 := mov_of hm p1
  have M : ∀ {l : List Nat}, l.Perm (List.range many) → P.Mv (2 ^ many) (P.movedL l) := fun {l} hp => ⟨by rw [P.movedL_length, hp.length_eq, List.length_range], (mov_of hm hp).lt⟩
  have hM : ∀ j, Mov many (mf (P.movedL r0.image) (P.movedL r1.image) j) := fun j => by
    cases j
    · exact v0
    · exact v1
  obtain ⟨own, sg, H⟩ := kinds_all (M p0) (M p1) u0 u1 fun j x y hx hy e => (hM j).inj x y hx hy e
  have rk := ranks hm H hM
  have hkl : (P.kindsL (P.movedL r0.image) (P.movedL r1.image) r0.turn r1.turn many).length ≤ 64 := by
    refine Nat.le_trans (P.kind_count (2 ^ many)) ?_
    rcases hm with rfl | rfl <;> decide
  generalize P.kindsL (P.movedL r0.image) (P.movedL r1.image) r0.turn r1.turn many = ks at H rk hkl
  have pcb : ∀ x, x < 2 ^ many → pc many x ≤ many := by
    rcases hm with rfl | rfl <;> decide +kernel
  have h64 : 2 ^ many ≤ 64 := by rcases hm with rfl | rfl <;> decide
  have kb : ∀ k ∈ ks, k.1 < 64 ∧ k.2.1 ≤ many := fun k hk => by
    obtain ⟨a1, _, a3⟩ := H.kinds k hk
    exact ⟨by exact om380 h64 a1, by rw [a3]; exact pcb _ a1⟩
  have dat := due_at (fun k hk => (kb k hk).2)
  have hdl : (dueL ks many).length = many + 1 := by unfold dueL; rw [due_len]; simp
  have rowAt : ∀ (i : Nat) (r : List Str), (dueL ks many)[i]? = some r → r = (ks.filter fun k => k.2.1 == i).map fun k => wd k.1 k.2.2 := fun i r h => by
    rw [← dat i, List.getD_eq_getElem?_getD, h]; rfl
  have rl : ∀ i : Nat, ((ks.filter fun k => k.2.1 == i).map fun k => wd k.1 k.2.2).length = (ks.filter fun k => k.2.1 == i).length := fun i => List.length_map _
  have rg : ∀ i : Nat, great ((ks.filter fun k => k.2.1 == i).map fun k => wd k.1 k.2.2) = (ks.filter fun k => k.2.1 == i && k.2.2).length := fun i => by
    rw [great_map _ fun k hk => (kb k (List.mem_filter.mp hk).1).1, List.filter_filter]
    congr 1
    exact List.filter_congr fun k _ => Bool.and_comm _ _
  have lid : ∀ i : Nat, (ks.filter fun k => k.2.1 == i).length ≤ 64 := fun i => Nat.le_trans (List.length_filter_le _ _) hkl
  have gle : ∀ i : Nat, (ks.filter fun k => k.2.1 == i && k.2.2).length ≤ (ks.filter fun k => k.2.1 == i).length := fun i => by
    have : (ks.filter fun k => k.2.1 == i && k.2.2) = (ks.filter fun k => k.2.1 == i).filter fun k => k.2.2 := by
      rw [List.filter_filter]
      exact List.filter_congr fun k _ => Bool.and_comm _ _
    rw [this]
    exact List.length_filter_le _ _
  refine ⟨im p0, im p1, M p0, M p1, u0, u1, kb, hkl, fun i hi => ?_, fun r hr => ?_, fun r hr w hw => ?_, fun i a b hi ha hb => ?_, fun i a b hi ha hb => ?_⟩
  · rw [dat i]
    unfold rowsOf hdRows
    rw [List.filter_map, List.map_map]
    have e : ks.filter ((fun r : Row2 => Txt.lower r.1 == Txt.lower (cx i)) ∘ fun k => (nmS k, vlS k)) = ks.filter fun k => k.2.1 == i := List.filter_congr fun k hk => by
      have := (kb k hk).2
      exact nm_is (by exact om379 hm this) (by exact om379 hm hi)
    rw [e]
    refine List.map_congr_left fun k hk => ?_
    exact (wd_all k.1 (kb k (List.mem_filter.mp hk).1).1 k.2.2).2.2.2
  · obtain ⟨i, hi, e⟩ := List.getElem_of_mem hr
    have := rowAt i r (by rw [List.getElem?_eq_getElem hi, e])
    subst this
    refine ⟨by rw [rl]; exact lid i, fun w hw => ?_⟩
    obtain ⟨k, hk, rfl⟩ := List.mem_map.mp hw
    exact (wd_all k.1 (kb k (List.mem_filter.mp hk).1).1 k.2.2).2.1
  · obtain ⟨i, hi, e⟩ := List.getElem_of_mem hr
    have := rowAt i r (by rw [List.getElem?_eq_getElem hi, e])
    subst this
    obtain ⟨k, hk, rfl⟩ := List.mem_map.mp hw
    exact (wd_all k.1 (kb k (List.mem_filter.mp hk).1).1 k.2.2).2.2.1
  · have ea := rowAt i a ha
    have eb := rowAt (i + 1) b hb
    rw [ea, eb, rl, rl, rg, rg]
    obtain ⟨f1, f2, f3⟩ := rk.few i hi
    obtain ⟨g1, g2⟩ := rk.kept i hi
    exact ⟨f1, g1, gle _, gle _, f3, lid _⟩
  · have ea := rowAt i a ha
    have eb := rowAt (many - i) b hb
    rw [ea, eb, rl, rl, rg, rg]
    exact ⟨(rk.few i hi).2.1, (rk.kept i hi).2⟩
end

end

set_option autoImplicit true

def whole.tw17692944630003236201 : Unit := ()
def whole.tw17894032219461787878 : Unit := ()
def whole.tw3099174332690161747 : Unit := ()
def whole.tw9707250908836423824 : Unit := ()
def whole.tw12273391643404565504 : Unit := ()
def whole.tw1470681187219097129 : Unit := ()
def whole.tw12771476539047137464 : Unit := ()
def whole.tw12950736950494245602 : Unit := ()
def whole.tw14263272274610480187 : Unit := ()
def whole.tw991413032120398830 : Unit := ()
def whole.tw717168751130393462 : Unit := ()
def whole.tw2977283470743139093 : Unit := ()
def whole.tw17739721616741308767 : Unit := ()
def whole.tw11975771152792504044 : Unit := ()
def whole.tw4444701892398472603 : Unit := ()
def whole.tw2983277470743139093 : Unit := ()
def whole.tw15481164920822199189 : Unit := ()
def whole.tw11348535963810952348 : Unit := ()
def whole.tw6211587326476211309 : Unit := ()
def whole.tw10153838690179905649 : Unit := ()
def whole.tw4305925821550244790 : Unit := ()
def whole.tw2349701861695252166 : Unit := ()
def whole.tw6553984163096543158 : Unit := ()
def whole.tw13061340530893119238 : Unit := ()
def whole.tw1692622564874605650 : Unit := ()
def whole.tw4107823604484434990 : Unit := ()
def whole.tw15338273372565686330 : Unit := ()
def whole.tw15761127226676153883 : Unit := ()
def whole.tw10178181129370835086 : Unit := ()
def whole.tw5532809562029925614 : Unit := ()
def whole.tw272886880108286182 : Unit := ()
def whole.tw8101450032967502455 : Unit := ()
def whole.tw15281802890647197503 : Unit := ()
def whole.tw13142167418276237254 : Unit := ()
def whole.tw4882939151822159636 : Unit := ()
def whole.tw2013318861076662011 : Unit := ()
def whole.tw8894826161267586577 : Unit := ()
def whole.tw7509650053966640704 : Unit := ()
def whole.tw7564407027854533171 : Unit := ()
def whole.tw1934810232205804993 : Unit := ()
def whole.tw1318554304652621475 : Unit := ()
def whole.tw397210227534267232 : Unit := ()
def whole.tw13962616709173656972 : Unit := ()
def whole.tw8799044985600393684 : Unit := ()
def whole.tw161333873384909080 : Unit := ()
def whole.tw8109663874093803249 : Unit := ()
def whole.tw6377287985247879410 : Unit := ()
def whole.tw12478609949429157409 : Unit := ()
def whole.tw7645621925510333512 : Unit := ()
def whole.tw6097748072631727781 : Unit := ()
def whole.tw6095937858554715304 : Unit := ()
def whole.tw1266484639899004939 : Unit := ()
def whole.tw2412972146837434115 : Unit := ()
def whole.tw15695161780090201225 : Unit := ()
def whole.tw4385814770128095146 : Unit := ()
def whole.tw6553728112857052609 : Unit := ()
def whole.tw10335108021726791369 : Unit := ()
def whole.tw3687826684616867901 : Unit := ()
def whole.tw5477020428343274486 : Unit := ()
def whole.tw13974613887430780637 : Unit := ()
def whole.tw6059178768359225412 : Unit := ()
def whole.tw5233578499609466721 : Unit := ()
def whole.tw5420612831705146045 : Unit := ()
def whole.tw17175008800681467811 : Unit := ()
def whole.tw9121730484126507938 : Unit := ()
def whole.tw2201306404548609547 : Unit := ()
def whole.tw15089273742334493110 : Unit := ()
def whole.tw7545654013535254480 : Unit := ()
def whole.tw12092817750456807627 : Unit := ()
def whole.tw15657491793718945610 : Unit := ()
def whole.tw16151222146762293071 : Unit := ()
def whole.tw14302830165969023719 : Unit := ()
def whole.tw14173393766343599159 : Unit := ()
def whole.tw6714927969197098277 : Unit := ()
def whole.tw15887453433157952335 : Unit := ()
def whole.tw14863180981096415481 : Unit := ()
def whole.tw10332575325313852403 : Unit := ()
def whole.tw14407849266092530191 : Unit := ()
def whole.tw14398639782218008916 : Unit := ()
def whole.tw14395644662136614805 : Unit := ()
def whole.tw16467933323881711526 : Unit := ()
def whole.tw13835169320686990480 : Unit := ()
def whole.tw15201427513781297686 : Unit := ()
def whole.tw9501391760213346845 : Unit := ()
def whole.tw2602410361197313117 : Unit := ()
def whole.tw6356627984389668255 : Unit := ()
def whole.tw12012580348766612465 : Unit := ()
def whole.tw356215775963413058 : Unit := ()
def whole.tw17037309529492816295 : Unit := ()
def whole.tw13018183266405097566 : Unit := ()
def whole.tw15462414832971340256 : Unit := ()
def whole.tw12562849145585476731 : Unit := ()
def whole.tw3802398583823018356 : Unit := ()
def whole.tw6065093676875020208 : Unit := ()
def whole.tw10951800313117414527 : Unit := ()
def whole.tw7078629122812257199 : Unit := ()
def whole.tw12289632459630027340 : Unit := ()
def whole.tw8444963059077079450 : Unit := ()
def whole.tw12077107353733055826 : Unit := ()
def whole.tw13478315594510353802 : Unit := ()
def whole.tw6067178945074143734 : Unit := ()
def whole.tw1072497446573119103 : Unit := ()
def whole.tw697334722855355308 : Unit := ()
def whole.tw8376726958742542899 : Unit := ()
def whole.tw14776171463994254414 : Unit := ()
def whole.tw16845944245580146995 : Unit := ()
def whole.tw4535560162481520197 : Unit := ()
def whole.tw3099485228618234346 : Unit := ()
def whole.tw427333557424167660 : Unit := ()
def whole.tw18382394861701510011 : Unit := ()
def whole.tw5460680643579594377 : Unit := ()
def whole.tw137721658169608169 : Unit := ()
def whole.tw1579314106941295789 : Unit := ()
def whole.tw6866068747796929802 : Unit := ()
def whole.tw4447922135398794285 : Unit := ()
def whole.tw43722865635132848 : Unit := ()
def whole.tw5602670089699025847 : Unit := ()
def whole.tw16564990636065421569 : Unit := ()
def whole.tw14654356449610600485 : Unit := ()
def whole.tw13960669724093699300 : Unit := ()
def whole.tw949743934663060849 : Unit := ()
def whole.tw17814491789457634051 : Unit := ()
def whole.tw10438997657263567297 : Unit := ()
def whole.tw1488662743745869538 : Unit := ()
def whole.tw14492196311604417308 : Unit := ()
def whole.tw7452821578398259720 : Unit := ()
def whole.tw9347626172496877827 : Unit := ()
def whole.tw12742087137024979937 : Unit := ()
def whole.tw1587768003098754325 : Unit := ()
def whole.tw7977878525754885090 : Unit := ()
def whole.tw9189751539129569556 : Unit := ()
def whole.tw12044105500090777872 : Unit := ()
def whole.tw9024608533772062355 : Unit := ()
def whole.tw14875044017630859624 : Unit := ()
local macro_rules
  | `(tactic| o_head ($f $k $a $e $t)) => do
    if t.raw.isOfKind ``«term_::_» then `(tactic| o_head ($f $k $a $e [106, 330])) else Lean.Macro.throwUnsupported
set_option Elab.async true
set_option maxRecDepth 100000 in
set_option maxHeartbeats 0 in
theorem whole : PySem.Challenge.rw_wk0050_01.Holds := by
  w_on; o_law; k_head; (case hw => w_witness2)
  k_fill
  intro w s₀ s₁ mg mb G Y fa o pm cd doc dV kV ho hd' hcd hD hmg hg args vals as hpre hlay hrd hwl hlo
  have KX := km_in_of Y
  km_tabs Y
  refine Ground.open G ?_
  intro T B D TE TW
  wrow_args hpre hlay hrd hwl hlo
  clear hd' hcd hD
  have e := mg_of (n := "law") (v := .ref 333) KX T.g (by kernel_rfl)
  have e2 := hmg.symm.trans e
  clear hmg e
  cases e2
  refine enter_call ?_
  rename_i hL ra w1 r0 hI hr hc1 hc2
  refine law_end ?hf T KX hT8 hg hL hI (by simp at hc1; omega) law_all fun s' hO hos hgb => ?_
  case hf =>
    exact {
      f_ap := fun h => ⟨_, _, _, _, _, _, _, _, _, _, h 118 _ rfl, h _ _ rfl, rfl, rfl⟩
      f_xfrm := fun h => ⟨_, _, _, _, _, _, _, _, _, _, h 125 _ rfl, h _ _ rfl, rfl, rfl⟩
      f_read := fun h => ⟨_, _, _, _, _, _, _, _, _, _, h 287 _ rfl, h _ _ rfl, rfl, rfl⟩
      f_sizes := fun h => ⟨_, _, _, _, _, _, _, _, _, _, h 294 _ rfl, h _ _ rfl, rfl, rfl⟩
      f_plain := fun h => ⟨_, _, _, _, _, _, _, _, _, _, h 301 _ rfl, h _ _ rfl, rfl, rfl⟩
      f_ren := fun h => ⟨_, _, _, _, _, _, _, _, _, _, h 308 _ rfl, h _ _ rfl, rfl, rfl⟩
      f_moved := fun h => ⟨_, _, _, _, _, _, _, _, _, _, h 313 _ rfl, h _ _ rfl, rfl, rfl⟩
      f_kinds := fun h => ⟨_, _, _, _, _, _, _, _, _, _, h 318 _ rfl, h _ _ rfl, rfl, rfl⟩
      f_due := fun h => ⟨_, _, _, _, _, _, _, _, _, _, h 323 _ rfl, h _ _ rfl, rfl, rfl⟩
      f_rise := fun h => ⟨_, _, _, _, _, _, _, _, _, _, h 328 _ rfl, h _ _ rfl, rfl, rfl⟩
      f_gi := fun h => ⟨_, _, _, _, _, _, _, _, _, _, h 132 _ rfl, h _ _ rfl, rfl, rfl⟩
      f_wini := fun h => ⟨_, _, _, _, _, _, _, _, _, _, h 55 _ rfl, h _ _ rfl, rfl, rfl⟩
      f_wlr := fun h => ⟨_, _, _, _, _, _, _, _, _, _, h 62 _ rfl, h _ _ rfl, rfl, rfl⟩
      f_wil := fun h => ⟨_, _, _, _, _, _, _, _, _, _, h 69 _ rfl, h _ _ rfl, rfl, rfl⟩
      f_weq := fun h => ⟨_, _, _, _, _, _, _, _, _, _, h 76 _ rfl, h _ _ rfl, rfl, rfl⟩
      f_wls := fun h => ⟨_, _, _, _, _, _, _, _, _, _, h 90 _ rfl, h _ _ rfl, rfl, rfl⟩
      f_wnl := fun h => ⟨_, _, _, _, _, _, _, _, _, _, h 97 _ rfl, h _ _ rfl, rfl, rfl⟩
      w_make := fun P => by kernel_rfl
      w_init := fun P => by kernel_rfl
      w_fn := fun P => by kernel_rfl
      w_S := fun P => by kernel_rfl
      w_T := fun P => by kernel_rfl
      w_rd := fun P => by kernel_rfl
      o_raw := fun P => ⟨by kernel_rfl, by kernel_rfl, ⟨none, by kernel_rfl, rfl⟩⟩
      o_n := fun P => ⟨by kernel_rfl, by kernel_rfl, ⟨none, by kernel_rfl, rfl⟩⟩
      o_nt := fun P => ⟨by kernel_rfl, by kernel_rfl, ⟨none, by kernel_rfl, rfl⟩⟩
      o_norm := fun P => ⟨by kernel_rfl, by kernel_rfl, ⟨none, by kernel_rfl, rfl⟩⟩
      o_simple := fun P => ⟨by kernel_rfl, by kernel_rfl, ⟨none, by kernel_rfl, rfl⟩⟩
      s_raw := fun P => ⟨by kernel_rfl, by kernel_rfl, by kernel_rfl, by kernel_rfl⟩
      s_n := fun P => ⟨by kernel_rfl, by kernel_rfl, by kernel_rfl, by kernel_rfl⟩
      s_nt := fun P => ⟨by kernel_rfl, by kernel_rfl, by kernel_rfl, by kernel_rfl⟩
      s_norm := fun P => ⟨by kernel_rfl, by kernel_rfl, by kernel_rfl, by kernel_rfl⟩
      s_simple := fun P => ⟨by kernel_rfl, by kernel_rfl, by kernel_rfl, by kernel_rfl⟩
      p_il := fun P => ⟨by kernel_rfl, by kernel_rfl, by kernel_rfl⟩
      p_lr := fun P => ⟨by kernel_rfl, by kernel_rfl, by kernel_rfl⟩
      k_il := fun P => by kernel_rfl
      k_lr := fun P => by kernel_rfl
      f_hini := fun h => ⟨_, _, _, _, _, _, _, _, _, _, h 170 _ rfl, h _ _ rfl, rfl, rfl⟩
      f_hcst := fun h => ⟨_, _, _, _, _, _, _, _, _, _, h 177 _ rfl, h _ _ rfl, rfl, rfl⟩
      f_hadd := fun h => ⟨_, _, _, _, _, _, _, _, _, _, h 273 _ rfl, h _ _ rfl, rfl, rfl⟩
      f_d163 := fun h => ⟨_, _, h 163 _ rfl, rfl⟩
      f_o276 := fun h => ⟨_, h 276 _ rfl⟩
      h_own := fun P => ⟨by kernel_rfl, by kernel_rfl, ⟨none, by kernel_rfl, rfl⟩⟩
      h_set := fun P => ⟨by kernel_rfl, by kernel_rfl, by kernel_rfl, by kernel_rfl⟩
      p_hcst := fun P => ⟨by kernel_rfl, by kernel_rfl, by kernel_rfl⟩
      p_hall := fun P => ⟨by kernel_rfl, by kernel_rfl, by kernel_rfl⟩
      p_hadd := fun P => ⟨by kernel_rfl, by kernel_rfl, by kernel_rfl⟩
      k_hcst := fun P => by kernel_rfl
      k_hall := fun P => by kernel_rfl
      k_hadd := fun P => by kernel_rfl
      rx_name := fun h => ⟨_, _, _, _, _, h 142 _ rfl, h 141 _ rfl, by kernel_rfl⟩
      rx_val := fun h => ⟨_, _, _, _, _, h 147 _ rfl, h 146 _ rfl, by kernel_rfl⟩
      h_make := fun P => by kernel_rfl
      h_init := fun P => by kernel_rfl
      h_fn := fun P => by kernel_rfl
      x_hall := fun h => ⟨_, _, _, _, _, _, _, _, _, h 215 _ rfl, h _ _ rfl, rfl, rfl⟩
      x_fw := fun h => ⟨_, _, _, _, _, _, _, _, _, h 111 _ rfl, h _ _ rfl, rfl, rfl⟩
      hd_fw := fun P => by kernel_rfl
      k_gi := fun P => by kernel_rfl
      p_nl := fun P => ⟨by kernel_rfl, by kernel_rfl, by kernel_rfl⟩
      p_ls := fun P => ⟨by kernel_rfl, by kernel_rfl, by kernel_rfl⟩
      p_eq := fun P => ⟨by kernel_rfl, by kernel_rfl, by kernel_rfl⟩
      k_nl := fun P => by kernel_rfl
      k_ls := fun P => by kernel_rfl
      k_eq := fun P => by kernel_rfl
      k_fw := fun P => by kernel_rfl
      k_rise := fun P => by kernel_rfl
      k_ws := fun P => by kernel_rfl
      k_due := fun P => by kernel_rfl
      k_ap := fun P => by kernel_rfl
      k_hds := fun P => by kernel_rfl
      k_ren := fun P => by kernel_rfl
      k_moved := fun P => by kernel_rfl
      k_kinds := fun P => by kernel_rfl
      k_sizes := fun P => by kernel_rfl
      k_plain := fun P => by kernel_rfl
      hd_law := fun P => by kernel_rfl
      k_xfrm := fun P => by kernel_rfl
      k_read := fun P => by kernel_rfl
      x_law := fun h => ⟨_, _, _, _, _, _, _, _, _, h 333 _ rfl, h _ _ rfl, rfl, rfl⟩
      glob_all := fun Pp => by
        intro q hq
        simp only [List.mem_cons, List.not_mem_nil, or_false] at hq
        rcases hq with rfl | rfl | rfl | rfl | rfl | rfl | rfl | rfl | rfl | rfl | rfl | rfl | rfl | rfl | rfl | rfl | rfl <;> kernel_rfl
      blt_all := fun Pp => by
        intro q hq
        simp only [List.mem_cons, List.not_mem_nil, or_false] at hq
        rcases hq with rfl | rfl | rfl | rfl | rfl | rfl | rfl | rfl | rfl | rfl | rfl | rfl <;> exact ⟨by kernel_rfl, by kernel_rfl, by decide +kernel⟩
      kf_apart := fun Pp => ⟨by kernel_rfl, by kernel_rfl⟩ }
  have hpost : ∀ l : List Int, PySem.Challenge.rw_wk0050_01.row.claim.post [ofPy (PyData.list (List.map PyData.int l))] (.bool true) [ofPy (PyData.list (List.map PyData.int l))] = true := fun l => postC_of (X := true) (by rfl) (by show WTm.value _ (.eq .res (.lit (.bool true))) _ = _; simp [WTm.value, same]) rfl
  refine ⟨.inl ⟨_, .bool true, [], rfl, fun _ => by rfl,   .bool _, hpost _, fun _ => ⟨.nil, fun _ ha => nomatch ha⟩⟩, hO, hos, hgb⟩
set_option Elab.async false

end Mine

theorem PySem.Challenge.cw_wk0050_01_holds : PySem.Challenge.rw_wk0050_01.Holds :=
  Mine.whole

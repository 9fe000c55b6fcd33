import PyProof.Rows.All
import Wide.All
import OpenK.AllK
import Wide.FinOn
import Lean
import PyProof.CompFree
import PySem.Challenge.RW_oc0253_01
section
set_option linter.unusedVariables false
theorem Mine.q0 : ∀ {x0 x1 x2 : Nat}, ((x0 + (x1 + (1 : Nat))) < x2) → (((x0 + (1 : Nat)) + x1) < x2) := by lia
theorem Mine.q1 : ∀ {x0 x1 x2 : Nat}, ((x0 + (x1 + (3 : Nat))) < x2) → (((x0 + (3 : Nat)) + x1) < x2) := by lia
theorem Mine.q2 : ∀ {x0 x1 x2 x3 : Nat}, ((x0 + (x1 + (10 : Nat))) < x2) → (x3 ≤ (10 : Nat)) → (((x0 + x3) + x1) < x2) := by lia
theorem Mine.q3 : ∀ {x0 x1 x2 x3 : Nat}, (x0 ≤ x1) → ((x2 + x1) < x3) → ((x2 + x0) < x3) := by lia
theorem Mine.q4 : ∀ {x0 x1 x2 : Nat}, (x0 < x1) → (x0 < x2) → (x0 < ((min x1 x2) - (0 : Nat))) := by lia
theorem Mine.q5 : ∀ {x0 x1 x2 : Nat}, (x0 < ((min x1 x2) - (0 : Nat))) → (x0 < x1) := by lia
theorem Mine.q6 : ∀ {x0 x1 : Nat}, (((min x0 x1) - (0 : Nat)) ≤ x0) := by lia
theorem Mine.q7 {x0 x1 : Nat} (h0 : x0 < x1) : (x1 ≠ x0) := Nat.ne_of_gt (h0)
theorem Mine.q8 : ((((3 : Nat) + (1 : Nat)) + (1 : Nat)) ≤ (6 : Nat)) := Nat.le_add_left _ _
theorem Mine.q9 : ((((20 : Nat) + (10 : Nat)) + (3 : Nat)) ≤ (50 : Nat)) := Nat.le_add_left _ _
theorem Mine.q10 {x0 x1 x2 x3 : Nat} (h0 : x0 < x1) (h1 : x1 < x2) (h2 : x3 ≤ x0) : (x3 ≤ x2) := Nat.le_of_lt (Nat.lt_trans (Nat.lt_of_le_of_lt (h2) (h0)) (h1))
theorem Mine.q11 {x0 x1 x2 : Nat} (h0 : x0 < x1) (h1 : x2 ≤ x0) : (x2 ≤ x1) := Nat.le_of_lt (Nat.lt_of_le_of_lt (h1) (h0))
theorem Mine.q12 {x0 x1 x2 : Nat} (h0 : x0 < x1) (h1 : x2 < x0) : (x1 ≠ x2) := Nat.ne_of_gt (Nat.lt_trans (h1) (h0))
theorem Mine.q13 {x0 x1 x2 : Nat} (h0 : x0 < x1) (h1 : x1 < x2) : (x2 ≠ x0) := Nat.ne_of_gt (Nat.lt_trans (h0) (h1))
theorem Mine.q14 : ∀ {x0 x1 : Nat}, (x0 < x1) → ((x1 - (x0 + (1 : Nat))) < (x1 - x0)) := by omega
theorem Mine.q15 : ∀ {x1 : Nat} {x0 : Int}, ((0 : Int) ≤ x0) → (x0 < ((x1 : Nat) : Int)) → ((Int.toNat x0) < x1) := by lia
theorem Mine.q16 : ∀ {x0 : Int}, ((0 : Int) ≤ x0) → ((((Int.toNat x0) : Nat) : Int) = x0) := by lia
theorem Mine.q17 {x0 x1 x2 : Nat} (h0 : (x0 + x1) = x2) : (((x0 + (0 : Nat)) + (x1 + (1 : Nat))) = (x2 + (1 : Nat))) := congrArg (· + 1) h0
theorem Mine.q18 : ∀ {x0 x1 x2 x3 : Nat}, ((x0 + x1) = x2) → (((x0 + x3) + (x1 + (0 : Nat))) = (x2 + x3)) := by lia
theorem Mine.q19 {x0 : Nat} {x1 : Int} (h0 : (((x0 + (1 : Nat)) : Nat) : Int) ≤ x1) : ((((x0 : Nat) : Int) + (1 : Int)) ≤ x1) := h0
theorem Mine.q20 : ∀ {x1 : Nat} {x0 : Int}, (((x0 - (1 : Int)) - ((x1 : Nat) : Int)) = (x0 - (((x1 + (1 : Nat)) : Nat) : Int))) := by lia
theorem Mine.q21 : ∀ {x0 : Nat} {x1 : Int}, ((((x0 + (1 : Nat)) : Nat) : Int) ≤ x1) → (¬ (x1 = (0 : Int))) := by lia
theorem Mine.q22 : ∀ {x0 x1 : Int}, (x0 = x1) → ((x0 - (1 : Int)) = (0 : Int)) → (x1 = (0 : Int)) → False := by lia
theorem Mine.q23 : ∀ {x0 : Nat} {x1 : Int}, ((((x0 + (1 : Nat)) : Nat) : Int) ≤ x1) → (((x0 : Nat) : Int) ≤ (x1 - (1 : Int))) := by lia
theorem Mine.q24 : ∀ {x0 x1 x2 : Nat}, ((((x0 : Nat) : Int) + ((x1 : Nat) : Int)) = ((x2 : Nat) : Int)) → ((((x2 : Nat) : Int) - ((x1 : Nat) : Int)) = ((x0 : Nat) : Int)) := by lia
theorem Mine.q25 : ∀ {x0 x1 x2 : Nat}, ((((x0 : Nat) : Int) + ((x1 : Nat) : Int)) = ((x2 : Nat) : Int)) → (((x1 : Nat) : Int) ≤ ((x2 : Nat) : Int)) := by lia
theorem Mine.q26 : ∀ {x0 x1 : Int}, (x0 < x1) → (x1 < x0) → (x1 = x0) := by lia
theorem Mine.q27 : ∀ {x0 x1 : Int}, (x0 = x1) → (x1 < x0) → False := by simp
theorem Mine.q28 : ∀ {x0 x1 : Nat}, (x0 ≤ (x1 - (1 : Nat))) → ((0 : Nat) < x1) → ((x0 + (1 : Nat)) ≤ x1) := by lia
theorem Mine.q29 {x0 x1 x2 : Nat} (h0 : (x0 + (1 : Nat)) ≤ x1) (h1 : x1 = x2) : (x0 < x2) := h1 ▸ h0
theorem Mine.q30 {x0 x1 : Nat} (h0 : (x0 + (3 : Nat)) < x1) : (x0 < x1) := Nat.lt_of_le_of_lt (Nat.le_add_right _ _) (h0)
theorem Mine.q31 {x0 : Nat} : (x0 ≤ (x0 + (1 : Nat))) := Nat.le_succ _
theorem Mine.q32 {x0 : Nat} : (x0 ≠ (x0 + (1 : Nat))) := Nat.ne_of_lt (Nat.lt_succ_self _)
theorem Mine.q33 {x0 x1 x2 : Nat} (h0 : (x0 + (x1 + (1 : Nat))) < x2) : (x0 < x2) := Nat.lt_of_le_of_lt (Nat.le_add_right _ _) (h0)
theorem Mine.q34 {x0 : Nat} (h0 : x0 ≤ (1000 : Nat)) : (x0 ≤ (16777216 : Nat)) := Nat.le_of_lt (Nat.lt_of_le_of_lt (h0) (by decide))
theorem Mine.q35 : ∀ {x0 x1 : Nat}, ((x0 + (x1 + (1 : Nat))) = ((x0 + (1 : Nat)) + x1)) := by lia
theorem Mine.q36 : ∀ {x0 x1 x2 x3 : Nat}, (x0 ≤ (x1 + x2)) → (x1 ≤ (x3 + (1 : Nat))) → (x0 ≤ (x3 + (x2 + (1 : Nat)))) := by lia
theorem Mine.q37 : ∀ {x0 x1 x2 x3 : Nat}, (x0 ≤ (x1 + (min x2 x3))) → (x0 ≤ (x1 + x3)) := by lia
theorem Mine.q38 : ∀ {x0 x1 x2 : Nat}, (((x0 + x1) + (1 : Nat)) ≤ (1000 : Nat)) → (x2 = x1) → (x2 ≤ (16777216 : Nat)) := by lia
theorem Mine.q39 : ((6 : Nat) ≤ (7 : Nat)) := Nat.le_add_left _ _
theorem Mine.q40 : ((50 : Nat) ≤ (57 : Nat)) := Nat.le_add_left _ _
theorem Mine.q41 {x0 x1 : Nat} (h0 : ((x0 + x1) + (1 : Nat)) ≤ (1000 : Nat)) : (x0 ≤ (1000 : Nat)) := Nat.le_of_lt (Nat.lt_of_le_of_lt (Nat.le_add_right _ _) (h0))
theorem Mine.q42 : ∀ {x0 x1 x2 : Nat}, (((x0 + x1) + (1 : Nat)) ≤ (1000 : Nat)) → (x2 = x1) → (x2 ≤ (1000 : Nat)) := by lia
theorem Mine.q43 : ∀ {x0 x1 x2 x3 x4 : Nat}, (((x0 + x1) + (1 : Nat)) ≤ (1000 : Nat)) → (x2 ≤ (x0 + (1 : Nat))) → (x3 ≤ (x4 + x1)) → (x4 = x2) → (x3 ≤ (1000 : Nat)) := by lia
theorem Mine.q44 : ∀ {x0 x1 x2 x3 : Nat}, ((x0 + x1) ≤ (1000 : Nat)) → (x2 ≤ (x0 + x1)) → (x3 = x2) → (x3 ≤ (1000 : Nat)) := by lia
theorem Mine.q45 : ∀ {x0 x1 : Nat}, (x0 ≤ (1000 : Nat)) → (x1 = x0) → (x1 ≤ (16777216 : Nat)) := by lia
theorem Mine.q46 : ∀ {x0 : Int}, ((x0 + (((0 : Nat) : Nat) : Int)) = x0) := by simp
theorem Mine.q47 : ∀ {x0 x1 x2 x3 : Nat}, ((x0 + x1) ≤ (1000 : Nat)) → (x2 ≤ (x0 + (min x3 x1))) → (x2 ≤ (1000 : Nat)) := by lia
theorem Mine.q48 {x0 x1 : Nat} (h0 : x0 ≤ (1000 : Nat)) (h1 : x1 = x0) : (x1 ≤ (1000 : Nat)) := h1 ▸ h0
theorem Mine.q49 : ∀ {x1 : Nat} {x0 : Int}, ((x0 + (((x1 + (1 : Nat)) : Nat) : Int)) = ((x0 + ((x1 : Nat) : Int)) + (1 : Int))) := by lia
theorem Mine.q50 : ∀ {x0 x1 x2 : Nat}, (x0 ≤ x1) → ((x0 + (x2 + (1 : Nat))) ≤ ((x2 + (1 : Nat)) + x1)) := by lia
theorem Mine.q51 {x0 x1 x2 : Nat} (h0 : x0 ≤ x1) : (x0 ≤ ((x2 + (1 : Nat)) + x1)) := Nat.le_trans (h0) (Nat.le_add_left _ _)
theorem Mine.q52 : ∀ {x0 x1 x2 x3 : Nat}, ((x0 + (x1 + (1 : Nat))) ≤ x2) → ((((x3 + (1 : Nat)) + x0) + (x1 + (1 : Nat))) ≤ ((x3 + (1 : Nat)) + x2)) := by lia
theorem Mine.q53 {x0 x1 x2 : Nat} (h0 : x0 ≤ x1) : (((x2 + (1 : Nat)) + x0) ≤ ((x2 + (1 : Nat)) + x1)) := Nat.add_le_add_left h0 _
theorem Mine.q54 {x0 x1 x2 : Nat} : (x0 ≤ ((x1 - x2) + x0)) := Nat.le_add_left _ _
theorem Mine.q55 : ∀ {x0 x1 x2 : Nat}, (x0 < x1) → (((x1 - (x0 + (1 : Nat))) + x2) < ((x1 - x0) + x2)) := by lia
theorem Mine.q56 : ∀ {x0 x1 x2 x3 : Nat}, ((x0 + (x1 + (1 : Nat))) ≤ x2) → ((x0 + ((x1 - (0 : Nat)) + x3)) < (x2 + x3)) := by lia
theorem Mine.q57 {x0 : Nat} (h0 : x0 ≤ (1000 : Nat)) : ((x0 + (1 : Nat)) < (4096 : Nat)) := Nat.lt_succ_of_le (Nat.lt_of_le_of_lt (h0) (Nat.le_add_left _ _))
theorem Mine.q58 : ∀ {x0 x1 : Nat}, (x0 = (x1 + (1 : Nat))) → ((-((x0 : Nat) : Int)) ≤ (-(1 : Int))) := by lia
theorem Mine.q59 : ∀ {x0 x1 : Nat}, (x0 = (x1 + (1 : Nat))) → ((Int.toNat ((-(1 : Int)) + ((x0 : Nat) : Int))) = x1) := by lia
theorem Mine.q60 {x0 x1 : Nat} (h0 : x0 < x1) : (x0 ≠ x1) := Nat.ne_of_lt (h0)
theorem Mine.q61 {x0 x1 x2 : Nat} (h0 : (x0 + (1 : Nat)) ≤ x1) (h1 : x2 < x0) : (x1 ≠ x2) := Nat.ne_of_gt (Nat.lt_trans (h1) (h0))
theorem Mine.q62 : ∀ {x0 x1 x2 : Nat}, (x0 ≤ (1000 : Nat)) → (x1 = x2) → (x2 ≤ x0) → (x1 ≤ (16777216 : Nat)) := by lia
theorem Mine.q63 : ∀ {x0 x1 x2 : Nat}, (x0 ≤ (1000 : Nat)) → (x1 = x2) → (x2 ≤ x0) → (x1 ≤ (1000 : Nat)) := by lia
theorem Mine.q64 {x0 : Nat} (h0 : x0 ≤ (1000 : Nat)) : (x0 ≤ (1999 : Nat)) := Nat.le_of_lt (Nat.lt_of_le_of_lt (h0) (by decide))
theorem Mine.q65 {x0 : Nat} (h0 : x0 ≤ (1000 : Nat)) : ((x0 + (1 : Nat)) ≤ (16777216 : Nat)) := Nat.lt_of_le_of_lt (h0) (by decide)
theorem Mine.q66 {x0 x1 : Nat} (h0 : x0 ≤ (1000 : Nat)) (h1 : x1 ≤ x0) : (x1 ≤ (1000 : Nat)) := Nat.le_trans (h1) (h0)
theorem Mine.q67 : ∀ {x0 x1 x2 : Nat}, (x0 ≤ (1000 : Nat)) → (x1 = x2) → (x0 = x2) → (x1 ≤ (16777216 : Nat)) := by lia
theorem Mine.q68 : ∀ {x0 x1 x2 : Nat}, (x0 ≤ (1000 : Nat)) → (x1 = (x2 + (1 : Nat))) → ((x2 + (1 : Nat)) ≤ x0) → (x1 ≤ (16777216 : Nat)) := by lia
theorem Mine.q69 : ∀ {x0 x1 x2 : Nat}, (x0 ≤ (1000 : Nat)) → ((x1 + (1 : Nat)) ≤ x0) → (x2 = (x1 + (1 : Nat))) → (x2 ≤ (16777216 : Nat)) := by lia
theorem Mine.q70 {x0 x1 x2 x3 : Nat} (h0 : x0 ≤ x1) (h1 : x2 ≤ x3) (h2 : x3 < x0) : (x2 ≤ x1) := Nat.le_of_lt (Nat.lt_of_lt_of_le (Nat.lt_of_le_of_lt (h1) (h2)) (h0))
theorem Mine.q71 : ((40 : Nat) ≤ (57 : Nat)) := Nat.le_add_left _ _
theorem Mine.q72 : ∀ {x0 x1 : Nat}, (x0 ≤ x1) → (((0 : Nat) + x0) ≤ (x1 + (1 : Nat))) := by lia
theorem Mine.q73 {x0 : Nat} (h0 : x0 < (64 : Nat)) : (x0 ≤ (16777216 : Nat)) := Nat.le_of_lt (Nat.lt_of_lt_of_le (h0) (by decide))
theorem Mine.q74 {x0 : Nat} : ((0 : Int) ≤ ((x0 : Nat) : Int)) := Int.natCast_nonneg _
theorem Mine.q75 {x0 : Nat} : ((((x0 : Nat) : Int) / (2 : Int)) = (((x0 / (2 : Nat)) : Nat) : Int)) := rfl
theorem Mine.q76 {x0 : Nat} : ((((x0 : Nat) : Int) % (2 : Int)) = (((x0 % (2 : Nat)) : Nat) : Int)) := rfl
theorem Mine.q77 {x0 x1 : Nat} (h0 : x0 < (64 : Nat)) (h1 : x1 = x0) : (x1 < (64 : Nat)) := h1 ▸ h0
theorem Mine.q78 : ∀ {x0 : Nat}, ((0 : Nat) < x0) → (¬ (((x0 : Nat) : Int) = (0 : Int))) := by lia
theorem Mine.q79 : ∀ {x0 : Nat}, ((0 : Nat) < x0) → ((x0 / (2 : Nat)) < x0) := by lia
theorem Mine.q80 : ∀ {x0 x1 : Nat}, (x0 < (64 : Nat)) → (x1 = x0) → (x1 ≤ (1000 : Nat)) := by lia
theorem Mine.q81 : ∀ {x0 : Nat}, ((0 : Nat) < x0) → (((x0 - (1 : Nat)) / (2 : Nat)) < x0) := by lia
theorem Mine.q82 : ∀ {x0 : Nat}, ((((x0 % (2 : Nat)) : Nat) : Int) = (1 : Int)) → ((((x0 / (2 : Nat)) : Nat) : Int) = ((((x0 - (1 : Nat)) / (2 : Nat)) : Nat) : Int)) := by omega
theorem Mine.q83 : ∀ {x0 : Nat}, ((0 : Nat) < x0) → ((((x0 % (2 : Nat)) : Nat) : Int) ≠ (1 : Int)) → (((((x0 / (2 : Nat)) : Nat) : Int) - (1 : Int)) = ((((x0 - (1 : Nat)) / (2 : Nat)) : Nat) : Int)) := by lia
theorem Mine.q84 {x0 x1 x2 : Nat} (h0 : x0 < x1) (h1 : x1 = x2) : (x0 < x2) := h1 ▸ h0
theorem Mine.q85 : ∀ {x0 x1 x2 : Nat}, (x0 ≤ (1 : Nat)) → (x1 ≤ x2) → ((x0 + x1) ≤ (x2 + (1 : Nat))) := by lia
theorem Mine.q86 : ∀ {x0 x1 : Nat}, (x0 ≤ x1) → (x1 = (10 : Nat)) → ((x0 + ((10 : Nat) * (64 : Nat))) ≤ (16777216 : Nat)) := by lia
theorem Mine.q87 {x0 x1 x2 : Nat} (h0 : x0 < x1) (h1 : x2 ≤ x0) (h2 : (208 : Nat) < x2) : ((208 : Nat) ≠ x1) := Nat.ne_of_lt (Nat.lt_trans (Nat.lt_of_lt_of_le (h2) (h1)) (h0))
theorem Mine.q88 {x0 : Nat} : ((x0 + (1 : Nat)) ≠ x0) := Nat.ne_of_gt (Nat.lt_succ_self _)
theorem Mine.q89 : ∀ {x0 x1 x2 : Nat}, (x0 < x1) → (x2 ≤ x0) → ((208 : Nat) < x2) → ((x1 + (1 : Nat)) ≠ (208 : Nat)) := by lia
theorem Mine.q90 {x0 x1 : Nat} (h0 : x0 < x1) : (x0 ≠ (x1 + (1 : Nat))) := Nat.ne_of_lt (Nat.lt_of_lt_of_le (h0) (Nat.le_add_right _ _))
theorem Mine.q91 {x0 x1 : Nat} (h0 : x0 ≤ x1) (h1 : (208 : Nat) < x0) : (x1 ≠ (208 : Nat)) := Nat.ne_of_gt (Nat.lt_of_lt_of_le (h1) (h0))
theorem Mine.q92 : ∀ {x0 x1 x2 : Nat}, (x0 ≤ x1) → ((x1 + (1 : Nat)) < x2) → (x0 ≤ x2) := by lia
theorem Mine.q93 : ∀ {x0 x1 x2 : Nat}, (x0 = (min x1 x2)) → (x2 = (10 : Nat)) → (x0 ≤ (100 : Nat)) := by lia
theorem Mine.q94 {x0 x1 : Nat} (h0 : x0 < x1) : ((x1 + (1 : Nat)) ≠ x0) := Nat.ne_of_gt (Nat.lt_of_lt_of_le (h0) (Nat.le_add_right _ _))
theorem Mine.q95 {x0 x1 : Nat} (h0 : x0 ≤ x1) (h1 : (208 : Nat) < x0) : ((208 : Nat) ≠ x1) := Nat.ne_of_lt (Nat.lt_of_lt_of_le (h1) (h0))
theorem Mine.q96 : ∀ {x0 x1 x2 : Nat}, (x0 < x1) → ((x1 + (1 : Nat)) < x2) → (¬ (x0 = x2)) := by lia
theorem Mine.q97 {x0 x1 x2 : Nat} (h0 : x0 ≤ x1) (h1 : x2 < x0) : (¬ (x1 = x2)) := Nat.ne_of_gt (Nat.lt_of_lt_of_le (h1) (h0))
theorem Mine.q98 {x0 x1 x2 : Nat} (h0 : x0 ≤ x1) (h1 : x2 < x0) : (¬ (x2 = x1)) := Nat.ne_of_lt (Nat.lt_of_lt_of_le (h1) (h0))
theorem Mine.q99 : ∀ {x0 x1 x2 x3 : Nat}, (x0 ≤ x1) → ((x1 + (1 : Nat)) < x2) → (x3 < x0) → (x3 ≠ x2) := by lia
theorem Mine.q100 : ∀ {x0 x1 x2 x3 : Nat}, (x0 ≤ x1) → ((x1 + (1 : Nat)) < x2) → (x3 < x0) → (x3 = x2) → False := by lia
theorem Mine.q101 : ((2 : Nat) ≤ (4 : Nat)) := Nat.le_add_left _ _
theorem Mine.q102 : ((10 : Nat) ≤ (27 : Nat)) := Nat.le_add_left _ _
theorem Mine.q103 {x0 : Nat} (h0 : x0 ≤ (100 : Nat)) : (x0 ≤ (16777216 : Nat)) := Nat.le_of_lt (Nat.lt_of_le_of_lt (h0) (by decide))
theorem Mine.q104 {x0 : Nat} (h0 : ((x0 : Nat) : Int) = (0 : Int)) : (x0 = (0 : Nat)) := Int.ofNat.inj h0
theorem Mine.q105 : ∀ {x0 : Nat}, (((x0 : Nat) : Int) ≠ (0 : Int)) → (¬ (x0 = (0 : Nat))) := by simp
theorem Mine.q106 : ∀ {x2 : Nat} {x0 x1 : Int}, (x0 = (x1 + ((x2 : Nat) : Int))) → ((x0 - x1) = ((x2 : Nat) : Int)) := by lia
theorem Mine.q107 : ∀ {x2 : Nat} {x0 x1 : Int}, (x0 = (x1 + ((x2 : Nat) : Int))) → (¬ (x1 < x0)) → ((0 : Int) = ((x2 : Nat) : Int)) := by lia
theorem Mine.q108 {x1 : Nat} {x0 : Int} (h0 : x0 = ((x1 : Nat) : Int)) : ((x0 - (0 : Int)) = ((x1 : Nat) : Int)) := (by subst h0; rfl)
theorem Mine.q109 : ∀ {x1 : Nat} {x0 : Int}, (x0 = ((x1 : Nat) : Int)) → (¬ ((0 : Int) < x0)) → ((0 : Int) = ((x1 : Nat) : Int)) := by simp
theorem Mine.q110 {x0 x1 : Nat} (h0 : x0 = (10 : Nat)) (h1 : x1 < (9 : Nat)) : ((x1 + (1 : Nat)) < x0) := Nat.lt_of_le_of_lt (h1) (Nat.le_of_eq (h0).symm)
theorem Mine.q111 : ∀ {x0 : Nat}, (((1 : Int) + (((x0 : Nat) : Int) * (1 : Int))) = (((x0 + (1 : Nat)) : Nat) : Int)) := by lia
theorem Mine.q112 {x0 : Nat} (h0 : x0 = (10 : Nat)) : (x0 ≤ (1000 : Nat)) := (by subst h0; decide)
theorem Mine.q113 : ∀ {x0 : Nat}, ((Int.toNat ((9 : Int) - ((1 : Int) + (((x0 : Nat) : Int) * (1 : Int))))) = ((9 : Nat) - (x0 + (1 : Nat)))) := by lia
theorem Mine.q114 {x0 : Nat} (h0 : x0 = (10 : Nat)) : ((0 : Nat) < x0) := (by subst h0; decide)
theorem Mine.q115 : ((5 : Nat) ≤ (7 : Nat)) := Nat.le_add_left _ _
theorem Mine.q116 : ((30 : Nat) ≤ (57 : Nat)) := Nat.le_add_left _ _
theorem Mine.q117 {x0 x1 : Nat} (h0 : x0 < (10 : Nat)) (h1 : x1 = (10 : Nat)) : (x0 < x1) := h1 ▸ h0
theorem Mine.q118 : ∀ {x0 : Nat}, (((0 : Int) + (((x0 : Nat) : Int) * (1 : Int))) = ((x0 : Nat) : Int)) := by simp
theorem Mine.q119 {x0 : Nat} (h0 : x0 = (10 : Nat)) : (x0 ≤ (16777216 : Nat)) := (by subst h0; decide)
theorem Mine.q120 {x0 x1 : Nat} (h0 : x0 = (10 : Nat)) (h1 : x1 < x0) : (x1 < (10 : Nat)) := h0 ▸ h1
theorem Mine.q121 {x0 x1 : Nat} (h0 : (x0 + (1 : Nat)) = (x1 + (1 : Nat))) : (x0 = x1) := Nat.succ.inj h0
theorem Mine.q122 : ∀ {x0 x1 x2 x3 x4 : Nat}, ((x0 + (1 : Nat)) = (x1 + (1 : Nat))) → (x2 = x3) → (x4 ≤ (1000 : Nat)) → (x4 = (x3 + (x1 + (1 : Nat)))) → ((x2 + (x0 + (1 : Nat))) ≤ (16777216 : Nat)) := by lia
theorem Mine.q123 : ∀ {x0 x1 x2 x3 x4 : Nat}, ((x0 + (1 : Nat)) = (x1 + (1 : Nat))) → (x2 = x3) → (x4 ≤ (1000 : Nat)) → (x4 = (x3 + (x1 + (1 : Nat)))) → ((x2 + (x0 + (1 : Nat))) ≤ ((16777216 : Nat) + (1 : Nat))) := by lia
theorem Mine.q124 : ∀ {x0 x1 : Nat}, (x0 = x1) → (x1 ≤ (1000 : Nat)) → (x0 ≤ (16777216 : Nat)) := by lia
theorem Mine.q125 {x0 : Nat} (h0 : (((((x0 + (1 : Nat)) + (1 : Nat)) + (1 : Nat)) + (1 : Nat)) + (1 : Nat)) ≤ (4 : Nat)) : False := Nat.lt_irrefl _ (Nat.lt_of_lt_of_le (h0) (Nat.le_add_left _ _))
theorem Mine.q126 : ∀ {x0 x1 x2 : Nat}, (x0 < ((x1 + (1 : Nat)) + x2)) → (x0 < (x1 + (x2 + (1 : Nat)))) := by lia
theorem Mine.q127 : ∀ {x0 x1 x2 : Nat}, (x0 = ((x1 + x2) + (3 : Nat))) → (x1 ≤ x0) := by lia
theorem Mine.q128 {x0 : Nat} (h0 : x0 ≤ (4 : Nat)) : (x0 ≤ (1000 : Nat)) := Nat.le_of_lt (Nat.lt_of_le_of_lt (h0) (by decide))
theorem Mine.q129 : ∀ {x0 x1 x2 x3 : Nat}, (x0 < (x1 + x2)) → ((x1 + x2) ≤ x3) → (x3 = x0) → False := by lia
theorem Mine.q130 : ∀ {x0 x1 x2 : Nat}, ((x0 + x1) ≤ x2) → (x2 < x0) → False := by lia
theorem Mine.q131 {x0 x1 : Nat} : ((x0 + x1) ≤ ((x0 + x1) + (2 : Nat))) := Nat.le_add_right _ _
theorem Mine.q132 {x0 x1 : Nat} : ((x0 + x1) ≤ ((x0 + x1) + (1 : Nat))) := Nat.le_succ _
theorem Mine.q133 {x0 x1 x2 : Nat} (h0 : x0 < (x1 + x2)) (h1 : (x1 + x2) = x0) : False := Nat.lt_irrefl _ (Nat.lt_of_lt_of_le (h0) (Nat.le_of_eq h1))
theorem Mine.q134 {x0 x1 x2 : Nat} (h0 : x0 = ((x1 + x2) + (3 : Nat))) : ((x1 + x2) ≤ x0) := Nat.le_trans (Nat.le_add_right _ _) (Nat.le_of_eq (h0).symm)
theorem Mine.q135 : ∀ {x0 : Nat}, ((0 : Nat) < x0) → (((x0 : Nat) : Int) ≠ (0 : Int)) := by lia
theorem Mine.q136 : ∀ {x0 x1 : Nat}, (x0 ≤ x1) → (x1 ≤ (815730721 : Nat)) → (x0 < (1073741824 : Nat)) := by lia
theorem Mine.q137 : ∀ {x0 : Nat}, (x0 < (9 : Nat)) → ((0 : Int) ≤ ((8 : Int) + (((x0 : Nat) : Int) * (-(1 : Int))))) := by decide
theorem Mine.q138 : ∀ {x0 : Nat}, (((8 : Int) + (((x0 : Nat) : Int) * (-(1 : Int)))) ≤ (1000000 : Int)) := by lia
theorem Mine.q139 : ∀ {x0 : Nat}, ((Int.toNat ((8 : Int) + (((x0 : Nat) : Int) * (-(1 : Int))))) ≤ (8 : Nat)) := by lia
theorem Mine.q140 {x0 x1 : Nat} (h0 : (((x0 + (1 : Nat)) + (1 : Nat)) + (1 : Nat)) < x1) : (x0 ≤ x1) := Nat.le_of_lt (Nat.lt_of_le_of_lt (Nat.le_add_right _ _) (h0))
theorem Mine.q141 : ∀ {x0 : Int}, (x0 < (2 : Int)) → (¬ ((2 : Int) ≤ x0)) := by simp
theorem Mine.q142 : ∀ {x0 : Int}, ((0 : Int) ≤ x0) → (((1 : Int) + x0) = (((Int.toNat ((1 : Int) + x0)) : Nat) : Int)) := by lia
theorem Mine.q143 : ∀ {x0 : Int}, (x0 < (4 : Int)) → ((Int.toNat ((1 : Int) + x0)) ≤ (1000000 : Nat)) := by lia
theorem Mine.q144 : ∀ {x0 : Int}, (x0 < (4 : Int)) → ((Int.toNat ((1 : Int) + x0)) ≤ (4 : Nat)) := by lia
theorem Mine.q145 : ∀ {x0 : Int}, ((0 : Int) ≤ x0) → ((1 : Nat) ≤ (Int.toNat ((1 : Int) + x0))) := by lia
theorem Mine.q146 {x0 : Nat} (h0 : x0 ≤ (4 : Nat)) : (x0 ≤ (16777216 : Nat)) := Nat.le_of_lt (Nat.lt_of_le_of_lt (h0) (by decide))
theorem Mine.q147 {x0 : Nat} : ((0 : Int) ≤ ((0 : Int) + (((x0 : Nat) : Int) * (1 : Int)))) := Int.natCast_nonneg _
theorem Mine.q148 : ∀ {x0 x1 : Nat}, (x0 ≤ (4 : Nat)) → (x1 < x0) → (((0 : Int) + (((x1 : Nat) : Int) * (1 : Int))) ≤ (1000000 : Int)) := by lia
theorem Mine.q149 {x0 : Nat} (h0 : (2 : Nat) ≤ x0) : ((1 : Nat) ≤ x0) := Nat.le_of_lt (h0)
theorem Mine.q150 : ∀ {x0 x1 : Nat}, (x0 ≤ (4 : Nat)) → (x1 < x0) → ((Int.toNat ((0 : Int) + (((x1 : Nat) : Int) * (1 : Int)))) ≤ (8 : Nat)) := by lia
theorem Mine.q151 : ∀ {x0 : Nat}, ((2 : Nat) ≤ x0) → (((x0 : Nat) : Int) ≠ (0 : Int)) := by lia
theorem Mine.q152 : ∀ {x0 : Nat}, ((2 : Nat) ≤ x0) → ((0 : Int) < ((x0 : Nat) : Int)) := by lia
theorem Mine.q153 : ∀ {x0 x1 : Nat}, (x0 ≤ (4 : Nat)) → (x1 = x0) → (x1 ≤ (16777216 : Nat)) := by lia
theorem Mine.q154 : ∀ {x0 : Nat}, (((x0 : Nat) : Int) ≠ (0 : Int)) → ((0 : Int) < ((x0 : Nat) : Int)) := by lia
theorem Mine.q155 : ∀ {x0 x1 : Nat} {x2 : Int}, (x0 < x1) → (x2 < ((x0 : Nat) : Int)) → (x2 < ((x1 : Nat) : Int)) := by lia
theorem Mine.q156 {x0 x1 : Nat} (h0 : ((x0 + (1 : Nat)) + (1 : Nat)) < x1) : (x0 ≤ x1) := Nat.le_of_lt (Nat.lt_trans (Nat.le_add_right _ _) (h0))
theorem Mine.q157 : ∀ {x0 x1 : Int}, ((x0 < x1) ∨ (x1 ≤ x0)) := by lia
theorem Mine.q158 : ∀ {x0 x1 : Nat}, (x0 ≤ x1) → ((x1 - (x1 - x0)) = x0) := by lia
theorem Mine.q159 {x0 x1 x2 : Nat} (h0 : (x0 + (x1 + (1 : Nat))) ≤ x2) : (x0 < x2) := Nat.lt_of_le_of_lt (Nat.le_add_right _ _) (h0)
theorem Mine.q160 : ∀ {x0 x1 x2 : Nat}, ((x0 + (x1 + (1 : Nat))) ≤ x2) → ((x0 - (1 : Nat)) < x2) := by omega
theorem Mine.q161 : ∀ {x0 : Nat}, ((1 : Nat) ≤ x0) → (x0 = (x0 - (1 : Nat))) → False := by omega
theorem Mine.q162 {x0 : Nat} : ((1 : Nat) ≤ (x0 + (1 : Nat))) := Nat.succ_pos _
theorem Mine.q163 : ∀ {x0 x1 x2 : Nat}, ((x0 + (x1 + (1 : Nat))) ≤ x2) → (((x0 + (1 : Nat)) + x1) ≤ x2) := by lia
theorem Mine.q164 {x0 x1 : Nat} (h0 : (x0 + (1 : Nat)) ≤ x1) : (x0 ≤ x1) := Nat.le_of_lt (h0)
theorem Mine.q165 : ∀ {x0 x1 x2 : Nat}, (x0 ≤ ((x1 + (1 : Nat)) + x2)) → (x0 ≤ (x1 + (x2 + (1 : Nat)))) := by lia
theorem Mine.q166 : ∀ {x0 x1 x2 : Nat}, (x0 < (x1 + (x2 + (1 : Nat)))) → (x0 < ((x1 + (1 : Nat)) + x2)) := by lia
theorem Mine.q167 : ∀ {x0 x1 : Int}, (¬ (x0 < x1)) → (x0 ≤ x1) → (x0 = x1) := by lia
theorem Mine.q168 : ∀ {x0 : Nat} {x1 x2 : Int}, ((1 : Nat) ≤ x0) → (x0 = (x0 - (1 : Nat))) → (x1 < x2) := by omega
theorem Mine.q169 : ∀ {x0 x1 : Nat}, (x0 < x1) → (¬ (x0 = (x1 - (1 : Nat)))) → (x0 < (x1 - (1 : Nat))) := by lia
theorem Mine.q170 {x0 : Nat} (h0 : (1 : Nat) ≤ x0) : ((x0 - (1 : Nat)) < x0) := Nat.sub_lt h0 (by decide)
theorem Mine.q171 : ∀ {x0 x1 : Nat}, (x0 < (x1 + (1 : Nat))) → (¬ (x0 = x1)) → (x0 < x1) := by lia
theorem Mine.q172 {x0 x1 : Nat} : (x0 ≤ (x0 + (x1 + (1 : Nat)))) := Nat.le_add_right _ _
theorem Mine.q173 : ∀ {x0 x1 x2 : Nat}, (x0 ≤ x1) → (x2 < x0) → (((x0 - (1 : Nat)) - x2) < x1) := by omega
theorem Mine.q174 : ∀ {x0 x1 x2 : Nat}, (x0 < x1) → (x2 < x1) → (((x1 - (1 : Nat)) - x0) = ((x1 - (1 : Nat)) - x2)) → (x0 = x2) := by omega
theorem Mine.q175 : ∀ {x0 x1 x2 : Nat}, (x0 < x1) → (¬ (x2 < x1)) → (((x1 - (1 : Nat)) - x0) = x2) → (x0 = x2) := by omega
theorem Mine.q176 : ∀ {x0 x1 x2 : Nat}, (¬ (x0 < x1)) → (x2 < x1) → (x0 = ((x1 - (1 : Nat)) - x2)) → (x0 = x2) := by omega
theorem Mine.q177 : ∀ {x0 x1 : Nat}, (x0 ≤ x1) → ((x0 + (x1 - x0)) ≤ x1) := by lia
theorem Mine.q178 {x0 x1 : Nat} (h0 : (1 : Nat) ≤ x0) (h1 : x0 ≤ x1) : ((1 : Nat) ≤ x1) := Nat.lt_of_lt_of_le (h0) (h1)
theorem Mine.q179 : ∀ {x0 x1 x2 : Nat}, (x0 ≤ x1) → (x2 ≤ (x0 + (x1 - x0))) → (x2 ≤ x1) := by lia
theorem Mine.q180 {x0 x1 x2 : Nat} (h0 : x0 < x1) (h1 : x1 < x2) : (x0 < x2) := Nat.lt_trans (h0) (h1)
theorem Mine.q181 : ∀ {x0 x1 x2 : Nat}, (x0 < x1) → (x1 < x2) → (((x2 - (1 : Nat)) - x1) < ((x2 - (1 : Nat)) - x0)) := by omega
theorem Mine.q182 : ∀ {x0 x1 x2 : Nat}, (x0 < x1) → (((x1 - (1 : Nat)) - x2) < x1) := by omega
theorem Mine.q183 : ∀ {x0 : Nat}, ((1 : Nat) ≤ x0) → (((1 : Nat) + (x0 - (1 : Nat))) ≤ x0) := by omega
theorem Mine.q184 {x0 x1 : Nat} (h0 : x0 < x1) : (¬ (x1 < (1 : Nat))) := Nat.not_lt.mpr (Nat.lt_of_le_of_lt (Nat.le_add_left _ _) (h0))
theorem Mine.q185 {x0 x1 : Nat} (h0 : x0 = x1) : (x0 ≤ x1) := Nat.le_of_eq h0
theorem Mine.q186 {x0 : Nat} (h0 : (1 : Nat) ≤ x0) : ((0 : Nat) < x0) := h0
theorem Mine.q187 : ∀ {x0 x1 : Nat}, ((1 : Nat) ≤ x0) → (x1 ≤ ((1 : Nat) + (x0 - (1 : Nat)))) → ((x1 - (1 : Nat)) < x0) := by omega
theorem Mine.q188 : ∀ {x0 : Nat}, (x0 > (1 : Nat)) → ((0 : Nat) = (x0 - (1 : Nat))) → False := by lia
theorem Mine.q189 : ∀ {x0 : Nat}, (x0 > (1 : Nat)) → ((0 : Nat) < (x0 - (1 : Nat))) := by omega
theorem Mine.q190 : ∀ {x0 : Nat}, (x0 > (1 : Nat)) → ((x0 - (1 : Nat)) < x0) := by omega
theorem Mine.q191 : ∀ {x0 x1 : Nat}, ((1 : Nat) ≤ x0) → (x1 ≤ ((1 : Nat) + (x0 - (1 : Nat)))) → (x1 ≤ x0) := by lia
theorem Mine.q192 : ∀ {x0 : Nat}, ((1 : Nat) ≤ x0) → (¬ (x0 > (1 : Nat))) → (x0 = (1 : Nat)) := by lia
theorem Mine.q193 : ((1 : Nat) ≤ (2 : Nat)) := Nat.succ_pos _
theorem Mine.q194 : ∀ {x0 : Nat}, ((1 : Nat) ≤ x0) → (¬ ((1 : Nat) = x0)) → (((2 : Nat) + (x0 - ((1 : Nat) + (1 : Nat)))) ≤ x0) := by lia
theorem Mine.q195 : ∀ {x0 x1 : Nat}, (x0 < x1) → (x1 < (2 : Nat)) → (x1 = (1 : Nat)) := by lia
theorem Mine.q196 : ∀ {x0 : Nat}, (x0 < (1 : Nat)) → (x0 = (0 : Nat)) := by decide
theorem Mine.q197 : ∀ {x0 : Nat}, ((1 : Nat) ≤ x0) → (¬ ((1 : Nat) = x0)) → ((1 : Nat) < ((1 : Nat) + (x0 - (1 : Nat)))) := by lia
theorem Mine.q198 : ∀ {x0 x1 : Nat}, ((1 : Nat) ≤ x0) → (¬ ((1 : Nat) = x0)) → (x1 ≤ ((2 : Nat) + (x0 - ((1 : Nat) + (1 : Nat))))) → (x1 ≤ x0) := by lia
theorem Mine.q199 {x0 x1 x2 : Nat} (h0 : x0 ≤ x1) (h1 : x1 ≤ x2) : (x0 ≤ x2) := Nat.le_trans (h0) (h1)
theorem Mine.q200 : ∀ {x0 x1 x2 : Nat}, ((x0 - x1) ≤ (0 : Nat)) → (x1 ≤ x2) → (x0 ≤ x2) := by lia
theorem Mine.q201 {x0 x1 x2 : Nat} (h0 : x0 ≥ x1) (h1 : x0 ≤ x2) : (x1 ≤ x2) := Nat.le_trans (h0) (h1)
theorem Mine.q202 : ∀ {x0 x1 x2 : Nat}, (x0 ≤ x1) → (¬ (x2 ≥ x0)) → (((x2 + x0) / (2 : Nat)) < x1) := by lia
theorem Mine.q203 {x0 x1 x2 x3 : Nat} (h0 : x0 < x1) (h1 : ((x2 + x3) / (2 : Nat)) < x0) : (((x2 + x3) / (2 : Nat)) < x1) := Nat.lt_trans (h1) (h0)
theorem Mine.q204 {x0 x1 x2 : Nat} (h0 : ((x0 + x1) / (2 : Nat)) < x2) (h1 : x2 = ((x0 + x1) / (2 : Nat))) : False := Nat.lt_irrefl _ (Nat.lt_of_lt_of_le (h0) (Nat.le_of_eq h1))
theorem Mine.q205 : ∀ {x0 x1 : Nat}, (¬ (x0 ≥ x1)) → (x0 ≤ ((x0 + x1) / (2 : Nat))) := by lia
theorem Mine.q206 {x0 x1 x2 : Nat} (h0 : ((x0 + x1) / (2 : Nat)) < x2) : (((x0 + x1) / (2 : Nat)) ≤ x2) := Nat.le_of_lt (h0)
theorem Mine.q207 : ∀ {x0 x1 x2 : Nat}, ((x0 - x1) ≤ (x2 + (1 : Nat))) → ((((x1 + x0) / (2 : Nat)) - x1) ≤ x2) := by omega
theorem Mine.q208 {x0 x1 x2 : Nat} (h0 : ((x0 + x1) / (2 : Nat)) ≤ x2) (h1 : ¬ (x2 = ((x0 + x1) / (2 : Nat)))) : (((x0 + x1) / (2 : Nat)) < x2) := Nat.lt_of_le_of_ne h0 (Ne.symm h1)
theorem Mine.q209 : ∀ {x0 x1 : Nat}, (¬ (x0 ≥ x1)) → ((((x0 + x1) / (2 : Nat)) + (1 : Nat)) ≤ x1) := by lia
theorem Mine.q210 : ∀ {x0 x1 x2 : Nat}, ((x0 - x1) ≤ (x2 + (1 : Nat))) → ((x0 - (((x1 + x0) / (2 : Nat)) + (1 : Nat))) ≤ x2) := by omega
theorem Mine.q211 : ∀ {x0 x1 x2 : Nat}, (x0 < (((x1 + x2) / (2 : Nat)) + (1 : Nat))) → (¬ (x0 = ((x1 + x2) / (2 : Nat)))) → (x0 < ((x1 + x2) / (2 : Nat))) := by lia
theorem Mine.q212 : ∀ {x0 x1 x2 : Nat}, (((x0 + (1 : Nat)) + x1) = x2) → (x1 < x2) := by simp
theorem Mine.q213 {x0 : Nat} : ((x0 - (0 : Nat)) ≤ x0) := Nat.le_refl _
theorem Mine.q214 {x0 : Nat} : (¬ (x0 < (0 : Nat))) := Nat.not_lt_zero _
theorem Mine.q215 {x0 x1 : Nat} (h0 : x0 < x1) : (¬ (x1 ≤ x0)) := Nat.not_le.mpr (h0)
theorem Mine.q216 : ∀ {x0 x1 x2 : Nat}, (((x0 + (1 : Nat)) + x1) = x2) → ((x0 + (x1 + (1 : Nat))) = x2) := by lia
theorem Mine.q217 {x0 x1 x2 : Nat} (h0 : x0 < x1) (h1 : x0 = x2) : (¬ (x1 = x2)) := Nat.ne_of_gt (Nat.lt_of_le_of_lt (Nat.le_of_eq (h1).symm) (h0))
theorem Mine.q218 : ∀ {x0 x1 x2 x3 : Nat}, (x0 < x1) → (x1 < (x2 + (1 : Nat))) → (x0 = x3) → ((x3 < x1) ∧ (x1 ≤ x2)) := by lia
theorem Mine.q219 : ∀ {x0 x1 x2 : Nat}, (x0 < x1) → (x0 = x2) → (x2 ≤ (x1 - (1 : Nat))) := by omega
theorem Mine.q220 : ∀ {x0 x1 x2 : Nat}, (x0 < x1) → (x1 < (x2 + (1 : Nat))) → ((x1 - (1 : Nat)) < x2) := by lia
theorem Mine.q221 : ∀ {x0 x1 x2 x3 : Nat}, (x0 < x1) → (x1 = x2) → (¬ ((x2 < x0) ∧ (x0 ≤ x3))) := by lia
theorem Mine.q222 : ∀ {x0 x1 x2 x3 : Nat}, (x0 < x1) → (x1 < (x2 + (1 : Nat))) → (x3 < x0) → (¬ ((x3 < x1) ∧ (x1 ≤ x2))) → (x1 < x2) := by lia
theorem Mine.q223 : ∀ {x0 : Nat}, ((1 : Nat) ≤ x0) → ((max x0 (1 : Nat)) = x0) := by lia
theorem Mine.q224 : ∀ {x0 x1 : Nat}, (x0 < x1) → (((x1 - x0) + x0) = x1) := by lia
theorem Mine.q225 : ∀ {x0 x1 : Nat}, (x0 ≤ x1) → (¬ (x0 < x1)) → (x0 = x1) := by lia
theorem Mine.q226 : ∀ {x0 x1 : Nat}, (¬ (x0 < x1)) → (x0 < (x1 + (1 : Nat))) → (x0 = x1) := by lia
theorem Mine.q227 {x0 x1 x2 : Nat} (h0 : x0 = x1) (h1 : x2 < x0) : (x2 < x1) := h0 ▸ h1
theorem Mine.q228 {x0 x1 : Nat} (h0 : x0 < x1) (h1 : x0 = x1) : False := Nat.lt_irrefl _ (Nat.lt_of_lt_of_le (h0) (Nat.le_of_eq (h1).symm))
theorem Mine.q229 {x0 : Nat} (h0 : (x0 + (1 : Nat)) ≤ x0) : False := Nat.lt_irrefl _ (h0)
theorem Mine.q230 {x0 x1 x2 : Nat} (h0 : x0 = x1) (h1 : x2 < x1) : (x2 < x0) := h0 ▸ h1
theorem Mine.q231 {x0 x1 : Nat} (h0 : (2 : Nat) ≤ x0) (h1 : x1 = x0) : ((2 : Nat) ≤ x1) := h1 ▸ h0
theorem Mine.q232 {x0 x1 : Nat} (h0 : x0 = (0 : Nat)) : (¬ (x1 < x0)) := Nat.not_lt.mpr (Nat.le_trans (Nat.le_of_eq h0) (Nat.le_add_left _ _))
theorem Mine.q233 : ∀ {x0 : Int}, (¬ (x0 > (1 : Int))) → (x0 < (2 : Int)) := by omega
theorem Mine.q234 : ∀ {x0 x1 x2 : Nat}, (x0 < (min x1 x2)) → (x0 < x1) := by lia
theorem Mine.q235 {x0 x1 : Nat} (h0 : x0 ≤ x1) : (x0 ≤ (x1 + (1 : Nat))) := Nat.le_trans (h0) (Nat.le_add_right _ _)
theorem Mine.q236 {x0 : Nat} (h0 : x0 ≤ (13 : Nat)) : (x0 ≤ (1000000 : Nat)) := Nat.le_of_lt (Nat.lt_of_le_of_lt (h0) (by decide))
theorem Mine.q237 {x0 : Nat} (h0 : x0 ≤ (13 : Nat)) : (x0 ≤ (16777216 : Nat)) := Nat.le_of_lt (Nat.lt_of_le_of_lt (h0) (by decide))
theorem Mine.q238 {x0 : Nat} (h0 : x0 ≤ (13 : Nat)) : (x0 ≤ (1000 : Nat)) := Nat.le_of_lt (Nat.lt_of_le_of_lt (h0) (by decide))
theorem Mine.q239 : ∀ {x0 : Int}, (¬ (x0 < (2 : Int))) → ((2 : Int) ≤ x0) := by simp
theorem Mine.q240 : ∀ {x0 x1 : Nat}, (x0 = x1) → (x1 ≤ (4 : Nat)) → (x0 ≤ (16777216 : Nat)) := by lia
theorem Mine.q241 : ∀ {x0 : Int}, ((0 : Int) ≤ x0) → (x0 = (((Int.toNat x0) : Nat) : Int)) := by lia
theorem Mine.q242 : ∀ {x0 x1 x2 x3 x4 x5 : Nat}, (x0 ≤ (13 : Nat)) → (x1 = (x2 + x3)) → (x4 ≤ x0) → (x4 = (x2 + x5)) → (x3 ≤ x5) → (x1 ≤ (13 : Nat)) := by lia
theorem Mine.q243 {x0 : Int} (h0 : (1 : Int) < x0) : ((2 : Int) ≤ x0) := h0
theorem Mine.q244 : ((8 : Nat) ≤ (19 : Nat)) := Nat.le_add_left _ _
theorem Mine.q245 : ((60 : Nat) ≤ (197 : Nat)) := Nat.le_add_left _ _
theorem Mine.q246 : ∀ {x0 x1 : Nat}, (x0 ≤ (4 : Nat)) → (x1 = x0) → (x1 ≤ (1000 : Nat)) := by lia
theorem Mine.q247 : ∀ {x0 x1 x2 x3 : Nat}, (x0 < x1) → (x1 ≤ (13 : Nat)) → (x2 = x3) → (x3 ≤ x0) → ((x2 + (1 : Nat)) ≤ (14 : Nat)) := by lia
theorem Mine.q248 : ∀ {x0 x1 : Nat}, ((x0 + (197 : Nat)) < x1) → ((x0 + (64 : Nat)) < x1) := by lia
theorem Mine.q249 : ∀ {x0 x1 x2 : Nat}, (x0 = x1) → (x1 ≤ x2) → (x2 ≤ (13 : Nat)) → (x0 ≤ (13 : Nat)) := by lia
theorem Mine.q250 : ((5 : Nat) ≤ (19 : Nat)) := Nat.le_add_left _ _
theorem Mine.q251 : ((30 : Nat) ≤ (197 : Nat)) := Nat.le_add_left _ _
theorem Mine.q252 : ∀ {x0 x1 : Nat}, (x0 ≤ (13 : Nat)) → (x0 = x1) → (x1 < (64 : Nat)) := by lia
theorem Mine.q253 : ∀ {x0 x1 : Nat}, ((x0 + (197 : Nat)) < x1) → (((x0 + (1 : Nat)) + (1 : Nat)) < x1) := by lia
theorem Mine.q254 {x0 x1 : Nat} (h0 : ¬ (x0 < x1)) : (x1 ≤ x0) := Nat.not_lt.mp h0
theorem Mine.q255 : ∀ {x0 x1 x2 x3 x4 : Nat}, ((x0 + x1) = x2) → (x1 = x3) → (x2 ≤ (x4 + x3)) → (¬ (x4 < x0)) := by lia
theorem Mine.q256 : ∀ {x0 x1 x2 x3 x4 : Nat}, ((x0 + x1) = x2) → (x1 = x3) → (¬ (x2 ≤ (x4 + x3))) → (x4 < x0) := by lia
theorem Mine.q257 : ∀ {x0 x1 : Nat}, ((((2 : Int) * ((x0 : Nat) : Int)) > ((x1 : Nat) : Int)) ∨ (((2 : Int) * ((x0 : Nat) : Int)) = ((x1 : Nat) : Int))) → (x1 ≤ ((x1 / (2 : Nat)) + x0)) := by lia
theorem Mine.q258 : ∀ {x0 x1 : Nat}, (x0 ≤ ((x0 / (2 : Nat)) + x1)) → ((((2 : Int) * ((x1 : Nat) : Int)) > ((x0 : Nat) : Int)) ∨ (((2 : Int) * ((x1 : Nat) : Int)) = ((x0 : Nat) : Int))) := by lia
theorem Mine.q259 : ∀ {x0 x1 : Nat}, ((0 : Nat) < x0) → (((((2 : Int) * ((x1 : Nat) : Int)) > ((x0 : Nat) : Int)) ∨ (((2 : Int) = (3 : Int)) ∧ (((2 : Int) * ((x1 : Nat) : Int)) = ((x0 : Nat) : Int)))) ↔ (x0 ≤ (((x0 - (1 : Nat)) / (2 : Nat)) + x1))) := by lia
theorem Mine.q260 : ∀ {x0 x1 x2 : Nat}, (x0 = x1) → (x1 ≤ (4 : Nat)) → (x2 ≤ x0) → (x2 ≤ (4 : Nat)) := by lia
theorem Mine.q261 : ∀ {x0 x1 : Nat}, (x0 < x1) → (x1 = (0 : Nat)) → False := by lia
theorem Mine.q262 {x0 x1 : Nat} (h0 : x0 < x1) (h1 : x1 = (10 : Nat)) : (x0 < (10 : Nat)) := h1 ▸ h0
theorem Mine.q263 : ((3 : Nat) ≤ (12 : Nat)) := Nat.le_add_left _ _
theorem Mine.q264 : ((10 : Nat) ≤ (100 : Nat)) := Nat.le_add_left _ _
theorem Mine.q265 {x0 : Nat} (h0 : x0 ≤ (4 : Nat)) : (x0 < (64 : Nat)) := Nat.lt_of_le_of_lt (h0) (by decide)
theorem Mine.q266 : ∀ {x0 : Int}, ((2 : Int) ≤ x0) → (x0 ≠ (2 : Int)) → (x0 ≤ (3 : Int)) → (x0 = (3 : Int)) := by lia
theorem Mine.q267 : ((8 : Nat) ≤ (12 : Nat)) := Nat.le_add_left _ _
theorem Mine.q268 : ((60 : Nat) ≤ (100 : Nat)) := Nat.le_add_left _ _
theorem Mine.q269 : ∀ {x0 : Int}, (¬ ((1 : Int) < x0)) → (x0 < (2 : Int)) := by omega
end
section
open PySem PySem.W PySem.W.X PyProof.Rows
set_option Elab.async false
set_option maxRecDepth 100000
set_option maxHeartbeats 0
set_option linter.unusedVariables false
namespace Mine
noncomputable section
/-- the table that the text keeps, as data -/
noncomputable abbrev fmT : List (Str × WData) := [(Str.ofString "_filemode_table", WData.tuple [WData.tuple [WData.tuple [WData.int 40960, WData.str { cps := #[108] }], WData.tuple [WData.int 49152, WData.str { cps := #[115] }], WData.tuple [WData.int 32768, WData.str { cps := #[45] }], WData.tuple [WData.int 24576, WData.str { cps := #[98] }], WData.tuple [WData.int 16384, WData.str { cps := #[100] }], WData.tuple [WData.int 8192, WData.str { cps := #[99] }], WData.tuple [WData.int 4096, WData.str { cps := #[112] }]], WData.tuple [WData.tuple [WData.int 256, WData.str { cps := #[114] }]], WData.tuple [WData.tuple [WData.int 128, WData.str { cps := #[119] }]], WData.tuple [WData.tuple [WData.int 2112, WData.str { cps := #[115] }], WData.tuple [WData.int 2048, WData.str { cps := #[83] }], WData.tuple [WData.int 64, WData.str { cps := #[120] }]], WData.tuple [WData.tuple [WData.int 32, WData.str { cps := #[114] }]], WData.tuple [WData.tuple [WData.int 16, WData.str { cps := #[119] }]], WData.tuple [WData.tuple [WData.int 1032, WData.str { cps := #[115] }], WData.tuple [WData.int 1024, WData.str { cps := #[83] }], WData.tuple [WData.int 8, WData.str { cps := #[120] }]], WData.tuple [WData.tuple [WData.int 4, WData.str { cps := #[114] }]], WData.tuple [WData.tuple [WData.int 2, WData.str { cps := #[119] }]], WData.tuple [WData.tuple [WData.int 513, WData.str { cps := #[116] }], WData.tuple [WData.int 512, WData.str { cps := #[84] }], WData.tuple [WData.int 1, WData.str { cps := #[120] }]]])]
/-- the part of the text that the head looks at -/
noncomputable def VW : Program := PySem.W.view PySem.Challenge.pw_oc0253_01 [0, 2, 3, 4, 6, 7, 8, 9, 10, 12, 13, 14, 15, 16, 17, 18, 19, 20, 21, 22, 23, 24, 25, 26, 27, 28, 29, 30, 31, 32, 33, 35, 36, 37, 38, 39, 40, 41]
noncomputable abbrev LS : List Str := [Str.ofString "_NodeInfo", Str.ofString "_filemode_table"]
noncomputable abbrev pg : Program := PySem.Challenge.rw_oc0253_01.row.toRowW.1
/-- a def of the text, by its place -/
noncomputable def dfAt (i j : Nat) : Str × Arguments × List Stmt × Scope := match (PySem.Challenge.pw_oc0253_01).main.body[i]? with
  | some (.FunctionDef n a b _ _ _ s _ _ _) => (n, a, b, s)
  | some (.ClassDef _ _ _ cb _ _ _ _ _ _ _) => (match cb[j]? with
    | some (.FunctionDef n a b _ _ _ s _ _ _) => (n, a, b, s)
    | _ => default)
  | _ => default
noncomputable def fdOf (i j : Nat) (q : Str) (g : Addr) (d kd dc pm : Value) (an : Option Addr) (cd ct : Value) (bt : Addr) : FuncData :=
  ⟨(dfAt i j).1, q, (dfAt i j).2.1, .stmts (dfAt i j).2.2.1, (dfAt i j).2.2.2, g, [], d, kd, dc, pm, an, cd, ct, bt⟩
/- the objects that the text's top leaves, and the heap at some places of its run -/
noncomputable def o43 : Params → Obj := fun P => (Obj.mk (Value.type "tuple") none (Data.seq #[] 0) #[])
noncomputable def o44 : Params → Obj := fun P => (Obj.mk Value.none none (Data.fields #[]) #[])
noncomputable def o45 : Params → Obj := fun P => (Obj.mk (Value.type "code") none (Data.fields #[(Value.str "<module>" 182), (Value.str "<module>" 183), (Value.str "/claim/cut.py" 184), (Value.int 1 0), (Value.int 0 0), (Value.int 0 0), (Value.int 0 0), (Value.int 0 0), (Value.ref 11), (Value.bool false), (Value.int 181 0), (Value.ref 12), Value.none, Value.none, Value.none, Value.none, (Value.int 185 0), (Value.int 1 0), (Value.str "/claim/cut.py" 186)]) #[])
noncomputable def o46 : Params → Obj := fun P => (Obj.mk (Value.type "frame") none Data.plain #[(some (Value.ref 13)), (some (Value.ref 3)), (some (Value.ref 3)), none, (some (Value.str "__main__" 164)), none, (some (Value.ref 0))])
noncomputable def o49 : Params → Obj := fun P => (Obj.mk (Value.type "dict") none (Data.dict #[⟨(PyData.keyHash P "__name__"), (Value.str "__name__" 165), (Value.str "cpy313.graphlib" 230)⟩, ⟨(PyData.keyHash P "__doc__"), (Value.str "__doc__" 166), Value.none⟩, ⟨(PyData.keyHash P "__package__"), (Value.str "__package__" 167), Value.none⟩, ⟨(PyData.keyHash P "__loader__"), (Value.str "__loader__" 168), (Value.builtin "__main__.__loader__#opaque")⟩, ⟨(PyData.keyHash P "__spec__"), (Value.str "__spec__" 169), Value.none⟩, ⟨(PyData.keyHash P "__annotations__"), (Value.str "__annotations__" 170), (Value.ref 6)⟩, ⟨(PyData.keyHash P "__builtins__"), (Value.str "__builtins__" 171), (Value.ref 4)⟩, ⟨(PyData.keyHash P "__file__"), (Value.str "__file__" 173), (Value.str "/claim/cut.py" 172)⟩, ⟨(PyData.keyHash P "__cached__"), (Value.str "__cached__" 174), Value.none⟩, ⟨(PyData.keyHash P "_wall"), (Value.str "_wall" 193), (Value.ref 21)⟩, ⟨(PyData.keyHash P "StatisticsError"), (Value.str "StatisticsError" 213), (Value.ref 31)⟩, ⟨(PyData.keyHash P "median_low"), (Value.str "median_low" 221), (Value.ref 41)⟩, ⟨(PyData.keyHash P "median_high"), (Value.str "median_high" 229), (Value.ref 48)⟩, ⟨(PyData.keyHash P "_NODE_OUT"), (Value.str "_NODE_OUT" 234), (Value.int (-1) 233)⟩, ⟨(PyData.keyHash P "_NODE_DONE"), (Value.str "_NODE_DONE" 237), (Value.int (-2) 236)⟩] 15) #[])
noncomputable def o50 : Params → Obj := fun P => (Obj.mk Value.none none (Data.fields #[(Value.int 1 0), (Value.int 0 0), (Value.ref 20), (Value.int 5 0), (Value.int 0 0), (Value.ref 27), (Value.int 7 0), (Value.int 0 0), (Value.ref 40), (Value.int 16 0), (Value.int 0 0), (Value.ref 47)]) #[])
noncomputable def o51 : Params → Obj := fun P => (Obj.mk (Value.type "tuple") none (Data.seq #[] 0) #[])
noncomputable def o52 : Params → Obj := fun P => (Obj.mk Value.none none (Data.fields #[]) #[])
noncomputable def o53 : Params → Obj := fun P => (Obj.mk (Value.type "tuple") none (Data.seq #[(Value.str "k" 190)] 0) #[])
noncomputable def o54 : Params → Obj := fun P => (Obj.mk (Value.type "tuple") none (Data.seq #[] 0) #[])
noncomputable def o55 : Params → Obj := fun P => (Obj.mk Value.none none (Data.func (fdOf 0 0 "_wall" 0 Value.none Value.none Value.none Value.none none Value.none Value.none 0)) #[])
noncomputable def o56 : Params → Obj := fun P => (Obj.mk (Value.type "code") none (Data.fields #[(Value.str "_wall" 187), (Value.str "_wall" 188), (Value.str "/claim/cut.py" 189), (Value.int 1 0), (Value.int 1 0), (Value.int 0 0), (Value.int 0 0), (Value.int 3 0), (Value.ref 15), (Value.bool true), (Value.int 181 0), (Value.ref 16), Value.none, (Value.ref 17), (Value.ref 18), (Value.ref 19), (Value.int 191 0), (Value.int 1 0), (Value.str "/claim/cut.py" 192)]) #[])
noncomputable def o57 : Params → Obj := fun P => (Obj.mk (Value.type "function") none (Data.func (fdOf 0 0 "_wall" 3 Value.none Value.none Value.none (Value.str "__main__" 164) none (Value.ref 20) Value.none 0)) #[])
noncomputable def o58 : Params → Obj := fun P => (Obj.mk (Value.type "tuple") none (Data.seq #[(Value.type "ValueError")] 0) #[])
noncomputable def o59 : Params → Obj := fun P => (Obj.mk (Value.type "builtin_function_or_method") none (Data.fields #[(Value.builtin "type.__prepare__"), (Value.type "type")]) #[])
noncomputable def o60 : Params → Obj := fun P => (Obj.mk (Value.type "dict") none (Data.dict #[⟨(PyData.keyHash P "__module__"), (Value.str "__module__" 203), (Value.str "cpy313.statistics" 194)⟩, ⟨(PyData.keyHash P "__qualname__"), (Value.str "__qualname__" 205), (Value.str "StatisticsError" 204)⟩, ⟨(PyData.keyHash P "__firstlineno__"), (Value.str "__firstlineno__" 207), (Value.int 5 206)⟩, ⟨(PyData.keyHash P "__static_attributes__"), (Value.str "__static_attributes__" 208), (Value.ref 29)⟩] 4) #[])
noncomputable def o61 : Params → Obj := fun P => (Obj.mk (Value.type "tuple") none (Data.seq #[] 0) #[])
noncomputable def o62 : Params → Obj := fun P => (Obj.mk Value.none none (Data.fields #[]) #[])
noncomputable def o63 : Params → Obj := fun P => (Obj.mk (Value.type "code") none (Data.fields #[(Value.str "StatisticsError" 198), (Value.str "StatisticsError" 199), (Value.str "/claim/cut.py" 200), (Value.int 5 0), (Value.int 0 0), (Value.int 0 0), (Value.int 0 0), (Value.int 0 0), (Value.ref 25), (Value.bool false), (Value.int 181 0), (Value.ref 26), Value.none, Value.none, Value.none, Value.none, (Value.int 201 0), (Value.int 5 0), (Value.str "/claim/cut.py" 202)]) #[])
noncomputable def o64 : Params → Obj := fun P => (Obj.mk (Value.type "frame") none Data.plain #[(some (Value.ref 27)), (some (Value.ref 3)), (some (Value.ref 24)), none, (some (Value.str "cpy313.statistics" 194)), none, (some (Value.ref 0))])
noncomputable def o65 : Params → Obj := fun P => (Obj.mk (Value.type "tuple") none (Data.seq #[] 0) #[])
noncomputable def o66 : Params → Obj := fun P => (Obj.mk (Value.type "dict") none (Data.dict #[⟨(PyData.keyHash P "__module__"), (Value.str "__module__" 203), (Value.str "cpy313.statistics" 194)⟩, ⟨(PyData.keyHash P "__firstlineno__"), (Value.str "__firstlineno__" 207), (Value.int 5 206)⟩, ⟨(PyData.keyHash P "__static_attributes__"), (Value.str "__static_attributes__" 208), (Value.ref 29)⟩, ⟨(PyData.keyHash P "__weakref__"), (Value.str "__weakref__" 210), (Value.ref 32)⟩, ⟨(PyData.keyHash P "__doc__"), (Value.str "__doc__" 211), Value.none⟩] 3) #[])
noncomputable def o67 : Params → Obj := fun P => (Obj.mk (Value.type "type") none (Data.cls (ClassData.mk "StatisticsError" [(Value.type "ValueError")] [(Value.ref 31), (Value.type "ValueError"), (Value.type "Exception"), (Value.type "BaseException"), (Value.type "object")] 30 "StatisticsError" true [] [] false none false)) #[(some (Value.ref 22)), none, (some (Value.str "StatisticsError" 196)), (some (Value.str "StatisticsError" 204)), (some (Value.builtin "ValueError.__new__")), (some (Value.bool true))])
noncomputable def o68 : Params → Obj := fun P => (Obj.mk (Value.type "getset_descriptor") none (Data.fields #[(Value.str "__weakref__" 209), (Value.ref 31), (Value.builtin "ExceptionGroup.__weakref__"), Value.none]) #[])
noncomputable def o69 : Params → Obj := fun P => (Obj.mk (Value.type "super") none (Data.fields #[(Value.ref 31), (Value.ref 31), (Value.ref 31)]) #[])
noncomputable def o70 : Params → Obj := fun P => (Obj.mk (Value.type "builtin_function_or_method") none (Data.fields #[(Value.builtin "object.__init_subclass__"), (Value.ref 31)]) #[])
noncomputable def o71 : Params → Obj := fun P => (Obj.mk (Value.type "tuple") none (Data.seq #[] 0) #[])
noncomputable def o72 : Params → Obj := fun P => (Obj.mk Value.none none (Data.fields #[]) #[])
noncomputable def o73 : Params → Obj := fun P => (Obj.mk (Value.type "tuple") none (Data.seq #[(Value.str "data" 217), (Value.str "n" 218)] 0) #[])
noncomputable def o74 : Params → Obj := fun P => (Obj.mk (Value.type "tuple") none (Data.seq #[] 0) #[])
noncomputable def o75 : Params → Obj := fun P => (Obj.mk Value.none none (Data.func (fdOf 3 0 "median_low" 0 Value.none Value.none Value.none Value.none none Value.none Value.none 0)) #[])
noncomputable def o76 : Params → Obj := fun P => (Obj.mk (Value.type "code") none (Data.fields #[(Value.str "median_low" 214), (Value.str "median_low" 215), (Value.str "/claim/cut.py" 216), (Value.int 7 0), (Value.int 1 0), (Value.int 0 0), (Value.int 0 0), (Value.int 3 0), (Value.ref 35), (Value.bool true), (Value.int 181 0), (Value.ref 36), Value.none, (Value.ref 37), (Value.ref 38), (Value.ref 39), (Value.int 219 0), (Value.int 7 0), (Value.str "/claim/cut.py" 220)]) #[])
noncomputable def o77 : Params → Obj := fun P => (Obj.mk (Value.type "function") none (Data.func (fdOf 3 0 "median_low" 3 Value.none Value.none Value.none (Value.str "cpy313.statistics" 194) none (Value.ref 40) Value.none 0)) #[])
noncomputable def o78 : Params → Obj := fun P => (Obj.mk (Value.type "tuple") none (Data.seq #[] 0) #[])
noncomputable def o79 : Params → Obj := fun P => (Obj.mk Value.none none (Data.fields #[]) #[])
noncomputable def o80 : Params → Obj := fun P => (Obj.mk (Value.type "tuple") none (Data.seq #[(Value.str "data" 225), (Value.str "n" 226)] 0) #[])
noncomputable def o81 : Params → Obj := fun P => (Obj.mk (Value.type "tuple") none (Data.seq #[] 0) #[])
noncomputable def o82 : Params → Obj := fun P => (Obj.mk Value.none none (Data.func (fdOf 4 0 "median_high" 0 Value.none Value.none Value.none Value.none none Value.none Value.none 0)) #[])
noncomputable def o83 : Params → Obj := fun P => (Obj.mk (Value.type "code") none (Data.fields #[(Value.str "median_high" 222), (Value.str "median_high" 223), (Value.str "/claim/cut.py" 224), (Value.int 16 0), (Value.int 1 0), (Value.int 0 0), (Value.int 0 0), (Value.int 3 0), (Value.ref 42), (Value.bool true), (Value.int 181 0), (Value.ref 43), Value.none, (Value.ref 44), (Value.ref 45), (Value.ref 46), (Value.int 227 0), (Value.int 16 0), (Value.str "/claim/cut.py" 228)]) #[])
noncomputable def o84 : Params → Obj := fun P => (Obj.mk (Value.type "function") none (Data.func (fdOf 4 0 "median_high" 3 Value.none Value.none Value.none (Value.str "cpy313.statistics" 194) none (Value.ref 47) Value.none 0)) #[])
noncomputable def o85 : Params → Obj := fun P => (Obj.mk (Value.type "dict") none (Data.dict #[⟨(PyData.keyHash P "__name__"), (Value.str "__name__" 165), (Value.str "cpy313.graphlib" 230)⟩, ⟨(PyData.keyHash P "__doc__"), (Value.str "__doc__" 166), Value.none⟩, ⟨(PyData.keyHash P "__package__"), (Value.str "__package__" 167), Value.none⟩, ⟨(PyData.keyHash P "__loader__"), (Value.str "__loader__" 168), (Value.builtin "__main__.__loader__#opaque")⟩, ⟨(PyData.keyHash P "__spec__"), (Value.str "__spec__" 169), Value.none⟩, ⟨(PyData.keyHash P "__annotations__"), (Value.str "__annotations__" 170), (Value.ref 6)⟩, ⟨(PyData.keyHash P "__builtins__"), (Value.str "__builtins__" 171), (Value.ref 4)⟩, ⟨(PyData.keyHash P "__file__"), (Value.str "__file__" 173), (Value.str "/claim/cut.py" 172)⟩, ⟨(PyData.keyHash P "__cached__"), (Value.str "__cached__" 174), Value.none⟩, ⟨(PyData.keyHash P "_wall"), (Value.str "_wall" 193), (Value.ref 21)⟩, ⟨(PyData.keyHash P "StatisticsError"), (Value.str "StatisticsError" 213), (Value.ref 31)⟩, ⟨(PyData.keyHash P "median_low"), (Value.str "median_low" 221), (Value.ref 41)⟩, ⟨(PyData.keyHash P "median_high"), (Value.str "median_high" 229), (Value.ref 48)⟩, ⟨(PyData.keyHash P "_NODE_OUT"), (Value.str "_NODE_OUT" 234), (Value.int (-1) 233)⟩, ⟨(PyData.keyHash P "_NODE_DONE"), (Value.str "_NODE_DONE" 237), (Value.int (-2) 236)⟩, ⟨(PyData.keyHash P "_NodeInfo"), (Value.str "_NodeInfo" 274), (Value.ref 67)⟩] 16) #[])
noncomputable def o86 : Params → Obj := fun P => (Obj.mk Value.none none (Data.fields #[(Value.int 1 0), (Value.int 0 0), (Value.ref 20), (Value.int 5 0), (Value.int 0 0), (Value.ref 27), (Value.int 7 0), (Value.int 0 0), (Value.ref 40), (Value.int 16 0), (Value.int 0 0), (Value.ref 47), (Value.int 25 0), (Value.int 0 0), (Value.ref 54)]) #[])
noncomputable def o87 : Params → Obj := fun P => (Obj.mk (Value.type "tuple") none (Data.seq #[] 0) #[])
noncomputable def o88 : Params → Obj := fun P => (Obj.mk (Value.type "builtin_function_or_method") none (Data.fields #[(Value.builtin "type.__prepare__"), (Value.type "type")]) #[])
noncomputable def o89 : Params → Obj := fun P => (Obj.mk (Value.type "dict") none (Data.dict #[⟨(PyData.keyHash P "__module__"), (Value.str "__module__" 245), (Value.str "cpy313.graphlib" 230)⟩, ⟨(PyData.keyHash P "__qualname__"), (Value.str "__qualname__" 247), (Value.str "_NodeInfo" 246)⟩, ⟨(PyData.keyHash P "__firstlineno__"), (Value.str "__firstlineno__" 249), (Value.int 25 248)⟩, ⟨(PyData.keyHash P "__slots__"), (Value.str "__slots__" 253), (Value.ref 56)⟩, ⟨(PyData.keyHash P "__init__"), (Value.str "__init__" 261), (Value.ref 63)⟩, ⟨(PyData.keyHash P "__static_attributes__"), (Value.str "__static_attributes__" 265), (Value.ref 64)⟩] 6) #[])
noncomputable def o90 : Params → Obj := fun P => (Obj.mk (Value.type "tuple") none (Data.seq #[] 0) #[])
noncomputable def o91 : Params → Obj := fun P => (Obj.mk Value.none none (Data.fields #[(Value.int 28 0), (Value.int 4 0), (Value.ref 62)]) #[])
noncomputable def o92 : Params → Obj := fun P => (Obj.mk (Value.type "code") none (Data.fields #[(Value.str "_NodeInfo" 240), (Value.str "_NodeInfo" 241), (Value.str "/claim/cut.py" 242), (Value.int 25 0), (Value.int 0 0), (Value.int 0 0), (Value.int 0 0), (Value.int 0 0), (Value.ref 52), (Value.bool false), (Value.int 181 0), (Value.ref 53), Value.none, Value.none, Value.none, Value.none, (Value.int 243 0), (Value.int 25 0), (Value.str "/claim/cut.py" 244)]) #[])
noncomputable def o93 : Params → Obj := fun P => (Obj.mk (Value.type "frame") none Data.plain #[(some (Value.ref 54)), (some (Value.ref 3)), (some (Value.ref 51)), none, (some (Value.str "cpy313.graphlib" 230)), none, (some (Value.ref 0))])
noncomputable def o94 : Params → Obj := fun P => (Obj.mk (Value.type "tuple") none (Data.seq #[(Value.str "node" 250), (Value.str "npredecessors" 251), (Value.str "successors" 252)] 0) #[])
noncomputable def o95 : Params → Obj := fun P => (Obj.mk (Value.type "tuple") none (Data.seq #[] 0) #[])
noncomputable def o96 : Params → Obj := fun P => (Obj.mk Value.none none (Data.fields #[]) #[])
noncomputable def o97 : Params → Obj := fun P => (Obj.mk (Value.type "tuple") none (Data.seq #[(Value.str "self" 257), (Value.str "node" 258)] 0) #[])
noncomputable def o98 : Params → Obj := fun P => (Obj.mk (Value.type "tuple") none (Data.seq #[] 0) #[])
noncomputable def o99 : Params → Obj := fun P => (Obj.mk Value.none none (Data.func (fdOf 8 1 "_NodeInfo.__init__" 0 Value.none Value.none Value.none Value.none none Value.none Value.none 0)) #[])
noncomputable def o100 : Params → Obj := fun P => (Obj.mk (Value.type "code") none (Data.fields #[(Value.str "__init__" 254), (Value.str "_NodeInfo.__init__" 255), (Value.str "/claim/cut.py" 256), (Value.int 28 0), (Value.int 2 0), (Value.int 0 0), (Value.int 0 0), (Value.int 3 0), (Value.ref 57), (Value.bool true), (Value.int 181 0), (Value.ref 58), Value.none, (Value.ref 59), (Value.ref 60), (Value.ref 61), (Value.int 259 0), (Value.int 28 0), (Value.str "/claim/cut.py" 260)]) #[])
noncomputable def o101 : Params → Obj := fun P => (Obj.mk (Value.type "function") none (Data.func (fdOf 8 1 "_NodeInfo.__init__" 3 Value.none Value.none Value.none (Value.str "cpy313.graphlib" 230) none (Value.ref 62) Value.none 0)) #[])
noncomputable def o102 : Params → Obj := fun P => (Obj.mk (Value.type "tuple") none (Data.seq #[(Value.str "node" 262), (Value.str "npredecessors" 263), (Value.str "successors" 264)] 0) #[])
noncomputable def o103 : Params → Obj := fun P => (Obj.mk (Value.type "list") none (Data.seq #[(Value.str "node" 250), (Value.str "npredecessors" 251), (Value.str "successors" 252)] 1) #[])
noncomputable def o104 : Params → Obj := fun P => (Obj.mk (Value.type "dict") none (Data.dict #[⟨(PyData.keyHash P "__module__"), (Value.str "__module__" 245), (Value.str "cpy313.graphlib" 230)⟩, ⟨(PyData.keyHash P "__firstlineno__"), (Value.str "__firstlineno__" 249), (Value.int 25 248)⟩, ⟨(PyData.keyHash P "__slots__"), (Value.str "__slots__" 253), (Value.ref 56)⟩, ⟨(PyData.keyHash P "__init__"), (Value.str "__init__" 261), (Value.ref 63)⟩, ⟨(PyData.keyHash P "__static_attributes__"), (Value.str "__static_attributes__" 265), (Value.ref 64)⟩, ⟨(PyData.keyHash P "node"), (Value.str "node" 267), (Value.ref 68)⟩, ⟨(PyData.keyHash P "npredecessors"), (Value.str "npredecessors" 269), (Value.ref 69)⟩, ⟨(PyData.keyHash P "successors"), (Value.str "successors" 271), (Value.ref 70)⟩, ⟨(PyData.keyHash P "__doc__"), (Value.str "__doc__" 272), Value.none⟩] 5) #[])
noncomputable def o105 : Params → Obj := fun P => (Obj.mk (Value.type "type") none (Data.cls (ClassData.mk "_NodeInfo" [(Value.type "object")] [(Value.ref 67), (Value.type "object")] 66 "_NodeInfo" false ["node", "npredecessors", "successors"] [] false none false)) #[none, none, (some (Value.str "_NodeInfo" 238)), (some (Value.str "_NodeInfo" 246)), (some (Value.builtin "object.__new__")), (some (Value.bool false))])
noncomputable def o106 : Params → Obj := fun P => (Obj.mk (Value.type "member_descriptor") none (Data.fields #[(Value.str "node" 266), (Value.ref 67), (Value.builtin "proto.slot"), (Value.builtin "proto.slot#set"), (Value.int 2 0)]) #[])
noncomputable def o107 : Params → Obj := fun P => (Obj.mk (Value.type "member_descriptor") none (Data.fields #[(Value.str "npredecessors" 268), (Value.ref 67), (Value.builtin "proto.slot"), (Value.builtin "proto.slot#set"), (Value.int 1 0)]) #[])
noncomputable def o108 : Params → Obj := fun P => (Obj.mk (Value.type "member_descriptor") none (Data.fields #[(Value.str "successors" 270), (Value.ref 67), (Value.builtin "proto.slot"), (Value.builtin "proto.slot#set"), (Value.int 0 0)]) #[])
noncomputable def o109 : Params → Obj := fun P => (Obj.mk (Value.type "super") none (Data.fields #[(Value.ref 67), (Value.ref 67), (Value.ref 67)]) #[])
noncomputable def o110 : Params → Obj := fun P => (Obj.mk (Value.type "builtin_function_or_method") none (Data.fields #[(Value.builtin "object.__init_subclass__"), (Value.ref 67)]) #[])
noncomputable def o111 : Params → Obj := fun P => (Obj.mk (Value.type "dict") none (Data.dict #[⟨(PyData.keyHash P "__name__"), (Value.str "__name__" 165), (Value.str "cpy313.graphlib" 230)⟩, ⟨(PyData.keyHash P "__doc__"), (Value.str "__doc__" 166), Value.none⟩, ⟨(PyData.keyHash P "__package__"), (Value.str "__package__" 167), Value.none⟩, ⟨(PyData.keyHash P "__loader__"), (Value.str "__loader__" 168), (Value.builtin "__main__.__loader__#opaque")⟩, ⟨(PyData.keyHash P "__spec__"), (Value.str "__spec__" 169), Value.none⟩, ⟨(PyData.keyHash P "__annotations__"), (Value.str "__annotations__" 170), (Value.ref 6)⟩, ⟨(PyData.keyHash P "__builtins__"), (Value.str "__builtins__" 171), (Value.ref 4)⟩, ⟨(PyData.keyHash P "__file__"), (Value.str "__file__" 173), (Value.str "/claim/cut.py" 172)⟩, ⟨(PyData.keyHash P "__cached__"), (Value.str "__cached__" 174), Value.none⟩, ⟨(PyData.keyHash P "_wall"), (Value.str "_wall" 193), (Value.ref 21)⟩, ⟨(PyData.keyHash P "StatisticsError"), (Value.str "StatisticsError" 213), (Value.ref 31)⟩, ⟨(PyData.keyHash P "median_low"), (Value.str "median_low" 221), (Value.ref 41)⟩, ⟨(PyData.keyHash P "median_high"), (Value.str "median_high" 229), (Value.ref 48)⟩, ⟨(PyData.keyHash P "_NODE_OUT"), (Value.str "_NODE_OUT" 234), (Value.int (-1) 233)⟩, ⟨(PyData.keyHash P "_NODE_DONE"), (Value.str "_NODE_DONE" 237), (Value.int (-2) 236)⟩, ⟨(PyData.keyHash P "_NodeInfo"), (Value.str "_NodeInfo" 274), (Value.ref 67)⟩, ⟨(PyData.keyHash P "CycleError"), (Value.str "CycleError" 292), (Value.ref 82)⟩] 17) #[])
noncomputable def o112 : Params → Obj := fun P => (Obj.mk Value.none none (Data.fields #[(Value.int 1 0), (Value.int 0 0), (Value.ref 20), (Value.int 5 0), (Value.int 0 0), (Value.ref 27), (Value.int 7 0), (Value.int 0 0), (Value.ref 40), (Value.int 16 0), (Value.int 0 0), (Value.ref 47), (Value.int 25 0), (Value.int 0 0), (Value.ref 54), (Value.int 32 0), (Value.int 0 0), (Value.ref 78)]) #[])
noncomputable def o113 : Params → Obj := fun P => (Obj.mk (Value.type "tuple") none (Data.seq #[(Value.type "ValueError")] 0) #[])
noncomputable def o114 : Params → Obj := fun P => (Obj.mk (Value.type "builtin_function_or_method") none (Data.fields #[(Value.builtin "type.__prepare__"), (Value.type "type")]) #[])
noncomputable def o115 : Params → Obj := fun P => (Obj.mk (Value.type "dict") none (Data.dict #[⟨(PyData.keyHash P "__module__"), (Value.str "__module__" 282), (Value.str "cpy313.graphlib" 230)⟩, ⟨(PyData.keyHash P "__qualname__"), (Value.str "__qualname__" 284), (Value.str "CycleError" 283)⟩, ⟨(PyData.keyHash P "__firstlineno__"), (Value.str "__firstlineno__" 286), (Value.int 32 285)⟩, ⟨(PyData.keyHash P "__static_attributes__"), (Value.str "__static_attributes__" 287), (Value.ref 80)⟩] 4) #[])
noncomputable def o116 : Params → Obj := fun P => (Obj.mk (Value.type "tuple") none (Data.seq #[] 0) #[])
noncomputable def o117 : Params → Obj := fun P => (Obj.mk Value.none none (Data.fields #[]) #[])
noncomputable def o118 : Params → Obj := fun P => (Obj.mk (Value.type "code") none (Data.fields #[(Value.str "CycleError" 277), (Value.str "CycleError" 278), (Value.str "/claim/cut.py" 279), (Value.int 32 0), (Value.int 0 0), (Value.int 0 0), (Value.int 0 0), (Value.int 0 0), (Value.ref 76), (Value.bool false), (Value.int 181 0), (Value.ref 77), Value.none, Value.none, Value.none, Value.none, (Value.int 280 0), (Value.int 32 0), (Value.str "/claim/cut.py" 281)]) #[])
noncomputable def o119 : Params → Obj := fun P => (Obj.mk (Value.type "frame") none Data.plain #[(some (Value.ref 78)), (some (Value.ref 3)), (some (Value.ref 75)), none, (some (Value.str "cpy313.graphlib" 230)), none, (some (Value.ref 0))])
noncomputable def o120 : Params → Obj := fun P => (Obj.mk (Value.type "tuple") none (Data.seq #[] 0) #[])
noncomputable def o121 : Params → Obj := fun P => (Obj.mk (Value.type "dict") none (Data.dict #[⟨(PyData.keyHash P "__module__"), (Value.str "__module__" 282), (Value.str "cpy313.graphlib" 230)⟩, ⟨(PyData.keyHash P "__firstlineno__"), (Value.str "__firstlineno__" 286), (Value.int 32 285)⟩, ⟨(PyData.keyHash P "__static_attributes__"), (Value.str "__static_attributes__" 287), (Value.ref 80)⟩, ⟨(PyData.keyHash P "__weakref__"), (Value.str "__weakref__" 289), (Value.ref 83)⟩, ⟨(PyData.keyHash P "__doc__"), (Value.str "__doc__" 290), Value.none⟩] 3) #[])
noncomputable def o122 : Params → Obj := fun P => (Obj.mk (Value.type "type") none (Data.cls (ClassData.mk "CycleError" [(Value.type "ValueError")] [(Value.ref 82), (Value.type "ValueError"), (Value.type "Exception"), (Value.type "BaseException"), (Value.type "object")] 81 "CycleError" true [] [] false none false)) #[(some (Value.ref 73)), none, (some (Value.str "CycleError" 275)), (some (Value.str "CycleError" 283)), (some (Value.builtin "ValueError.__new__")), (some (Value.bool true))])
noncomputable def o123 : Params → Obj := fun P => (Obj.mk (Value.type "getset_descriptor") none (Data.fields #[(Value.str "__weakref__" 288), (Value.ref 82), (Value.builtin "ExceptionGroup.__weakref__"), Value.none]) #[])
noncomputable def o124 : Params → Obj := fun P => (Obj.mk (Value.type "super") none (Data.fields #[(Value.ref 82), (Value.ref 82), (Value.ref 82)]) #[])
noncomputable def o125 : Params → Obj := fun P => (Obj.mk (Value.type "builtin_function_or_method") none (Data.fields #[(Value.builtin "object.__init_subclass__"), (Value.ref 82)]) #[])
noncomputable def o126 : Params → Obj := fun P => (Obj.mk (Value.type "dict") none (Data.dict #[⟨(PyData.keyHash P "__name__"), (Value.str "__name__" 165), (Value.str "cpy313.graphlib" 230)⟩, ⟨(PyData.keyHash P "__doc__"), (Value.str "__doc__" 166), Value.none⟩, ⟨(PyData.keyHash P "__package__"), (Value.str "__package__" 167), Value.none⟩, ⟨(PyData.keyHash P "__loader__"), (Value.str "__loader__" 168), (Value.builtin "__main__.__loader__#opaque")⟩, ⟨(PyData.keyHash P "__spec__"), (Value.str "__spec__" 169), Value.none⟩, ⟨(PyData.keyHash P "__annotations__"), (Value.str "__annotations__" 170), (Value.ref 6)⟩, ⟨(PyData.keyHash P "__builtins__"), (Value.str "__builtins__" 171), (Value.ref 4)⟩, ⟨(PyData.keyHash P "__file__"), (Value.str "__file__" 173), (Value.str "/claim/cut.py" 172)⟩, ⟨(PyData.keyHash P "__cached__"), (Value.str "__cached__" 174), Value.none⟩, ⟨(PyData.keyHash P "_wall"), (Value.str "_wall" 193), (Value.ref 21)⟩, ⟨(PyData.keyHash P "StatisticsError"), (Value.str "StatisticsError" 213), (Value.ref 31)⟩, ⟨(PyData.keyHash P "median_low"), (Value.str "median_low" 221), (Value.ref 41)⟩, ⟨(PyData.keyHash P "median_high"), (Value.str "median_high" 229), (Value.ref 48)⟩, ⟨(PyData.keyHash P "_NODE_OUT"), (Value.str "_NODE_OUT" 234), (Value.int (-1) 233)⟩, ⟨(PyData.keyHash P "_NODE_DONE"), (Value.str "_NODE_DONE" 237), (Value.int (-2) 236)⟩, ⟨(PyData.keyHash P "_NodeInfo"), (Value.str "_NodeInfo" 274), (Value.ref 67)⟩, ⟨(PyData.keyHash P "CycleError"), (Value.str "CycleError" 292), (Value.ref 82)⟩, ⟨(PyData.keyHash P "TopologicalSorter"), (Value.str "TopologicalSorter" 411), (Value.ref 164)⟩] 18) #[])
noncomputable def o127 : Params → Obj := fun P => (Obj.mk Value.none none (Data.fields #[(Value.int 1 0), (Value.int 0 0), (Value.ref 20), (Value.int 5 0), (Value.int 0 0), (Value.ref 27), (Value.int 7 0), (Value.int 0 0), (Value.ref 40), (Value.int 16 0), (Value.int 0 0), (Value.ref 47), (Value.int 25 0), (Value.int 0 0), (Value.ref 54), (Value.int 32 0), (Value.int 0 0), (Value.ref 78), (Value.int 34 0), (Value.int 0 0), (Value.ref 91)]) #[])
noncomputable def o128 : Params → Obj := fun P => (Obj.mk (Value.type "tuple") none (Data.seq #[] 0) #[])
noncomputable def o129 : Params → Obj := fun P => (Obj.mk (Value.type "builtin_function_or_method") none (Data.fields #[(Value.builtin "type.__prepare__"), (Value.type "type")]) #[])
noncomputable def o130 : Params → Obj := fun P => (Obj.mk (Value.type "dict") none (Data.dict #[⟨(PyData.keyHash P "__module__"), (Value.str "__module__" 300), (Value.str "cpy313.graphlib" 230)⟩, ⟨(PyData.keyHash P "__qualname__"), (Value.str "__qualname__" 302), (Value.str "TopologicalSorter" 301)⟩, ⟨(PyData.keyHash P "__firstlineno__"), (Value.str "__firstlineno__" 304), (Value.int 34 303)⟩, ⟨(PyData.keyHash P "__init__"), (Value.str "__init__" 314), (Value.ref 100)⟩, ⟨(PyData.keyHash P "_get_nodeinfo"), (Value.str "_get_nodeinfo" 323), (Value.ref 107)⟩, ⟨(PyData.keyHash P "add"), (Value.str "add" 335), (Value.ref 114)⟩, ⟨(PyData.keyHash P "prepare"), (Value.str "prepare" 341), (Value.ref 119)⟩, ⟨(PyData.keyHash P "get_ready"), (Value.str "get_ready" 351), (Value.ref 126)⟩, ⟨(PyData.keyHash P "is_active"), (Value.str "is_active" 358), (Value.ref 133)⟩, ⟨(PyData.keyHash P "__bool__"), (Value.str "__bool__" 365), (Value.ref 140)⟩, ⟨(PyData.keyHash P "done"), (Value.str "done" 379), (Value.ref 147)⟩, ⟨(PyData.keyHash P "_find_cycle"), (Value.str "_find_cycle" 392), (Value.ref 154)⟩, ⟨(PyData.keyHash P "static_order"), (Value.str "static_order" 399), (Value.ref 161)⟩, ⟨(PyData.keyHash P "__static_attributes__"), (Value.str "__static_attributes__" 404), (Value.ref 162)⟩] 14) #[])
noncomputable def o131 : Params → Obj := fun P => (Obj.mk (Value.type "tuple") none (Data.seq #[] 0) #[])
noncomputable def o132 : Params → Obj := fun P => (Obj.mk Value.none none (Data.fields #[(Value.int 36 0), (Value.int 4 0), (Value.ref 99), (Value.int 45 0), (Value.int 4 0), (Value.ref 106), (Value.int 50 0), (Value.int 4 0), (Value.ref 113), (Value.int 59 0), (Value.int 4 0), (Value.ref 118), (Value.int 67 0), (Value.int 4 0), (Value.ref 125), (Value.int 78 0), (Value.int 4 0), (Value.ref 132), (Value.int 83 0), (Value.int 4 0), (Value.ref 139), (Value.int 86 0), (Value.int 4 0), (Value.ref 146), (Value.int 109 0), (Value.int 4 0), (Value.ref 153), (Value.int 138 0), (Value.int 4 0), (Value.ref 160)]) #[])
noncomputable def o133 : Params → Obj := fun P => (Obj.mk (Value.type "code") none (Data.fields #[(Value.str "TopologicalSorter" 295), (Value.str "TopologicalSorter" 296), (Value.str "/claim/cut.py" 297), (Value.int 34 0), (Value.int 0 0), (Value.int 0 0), (Value.int 0 0), (Value.int 0 0), (Value.ref 89), (Value.bool false), (Value.int 181 0), (Value.ref 90), Value.none, Value.none, Value.none, Value.none, (Value.int 298 0), (Value.int 34 0), (Value.str "/claim/cut.py" 299)]) #[])
noncomputable def o134 : Params → Obj := fun P => (Obj.mk (Value.type "frame") none Data.plain #[(some (Value.ref 91)), (some (Value.ref 3)), (some (Value.ref 88)), none, (some (Value.str "cpy313.graphlib" 230)), none, (some (Value.ref 0))])
noncomputable def o135 : Params → Obj := fun P => (Obj.mk (Value.type "tuple") none (Data.seq #[Value.none] 0) #[])
noncomputable def o136 : Params → Obj := fun P => (Obj.mk (Value.type "tuple") none (Data.seq #[] 0) #[])
noncomputable def o137 : Params → Obj := fun P => (Obj.mk Value.none none (Data.fields #[]) #[])
noncomputable def o138 : Params → Obj := fun P => (Obj.mk (Value.type "tuple") none (Data.seq #[(Value.str "self" 308), (Value.str "graph" 309), (Value.str "node" 310), (Value.str "predecessors" 311)] 0) #[])
noncomputable def o139 : Params → Obj := fun P => (Obj.mk (Value.type "tuple") none (Data.seq #[] 0) #[])
noncomputable def o140 : Params → Obj := fun P => (Obj.mk Value.none none (Data.func (fdOf 10 0 "TopologicalSorter.__init__" 0 Value.none Value.none Value.none Value.none none Value.none Value.none 0)) #[])
noncomputable def o141 : Params → Obj := fun P => (Obj.mk (Value.type "code") none (Data.fields #[(Value.str "__init__" 305), (Value.str "TopologicalSorter.__init__" 306), (Value.str "/claim/cut.py" 307), (Value.int 36 0), (Value.int 2 0), (Value.int 0 0), (Value.int 0 0), (Value.int 3 0), (Value.ref 94), (Value.bool true), (Value.int 181 0), (Value.ref 95), Value.none, (Value.ref 96), (Value.ref 97), (Value.ref 98), (Value.int 312 0), (Value.int 36 0), (Value.str "/claim/cut.py" 313)]) #[])
noncomputable def o142 : Params → Obj := fun P => (Obj.mk (Value.type "function") none (Data.func (fdOf 10 0 "TopologicalSorter.__init__" 3 (Value.ref 93) Value.none Value.none (Value.str "cpy313.graphlib" 230) none (Value.ref 99) Value.none 0)) #[])
noncomputable def o143 : Params → Obj := fun P => (Obj.mk (Value.type "tuple") none (Data.seq #[] 0) #[])
noncomputable def o144 : Params → Obj := fun P => (Obj.mk Value.none none (Data.fields #[]) #[])
noncomputable def o145 : Params → Obj := fun P => (Obj.mk (Value.type "tuple") none (Data.seq #[(Value.str "self" 318), (Value.str "node" 319), (Value.str "result" 320)] 0) #[])
noncomputable def o146 : Params → Obj := fun P => (Obj.mk (Value.type "tuple") none (Data.seq #[] 0) #[])
noncomputable def o147 : Params → Obj := fun P => (Obj.mk Value.none none (Data.func (fdOf 10 1 "TopologicalSorter._get_nodeinfo" 0 Value.none Value.none Value.none Value.none none Value.none Value.none 0)) #[])
noncomputable def o148 : Params → Obj := fun P => (Obj.mk (Value.type "code") none (Data.fields #[(Value.str "_get_nodeinfo" 315), (Value.str "TopologicalSorter._get_nodeinfo" 316), (Value.str "/claim/cut.py" 317), (Value.int 45 0), (Value.int 2 0), (Value.int 0 0), (Value.int 0 0), (Value.int 3 0), (Value.ref 101), (Value.bool true), (Value.int 181 0), (Value.ref 102), Value.none, (Value.ref 103), (Value.ref 104), (Value.ref 105), (Value.int 321 0), (Value.int 45 0), (Value.str "/claim/cut.py" 322)]) #[])
noncomputable def o149 : Params → Obj := fun P => (Obj.mk (Value.type "function") none (Data.func (fdOf 10 1 "TopologicalSorter._get_nodeinfo" 3 Value.none Value.none Value.none (Value.str "cpy313.graphlib" 230) none (Value.ref 106) Value.none 0)) #[])
noncomputable def o150 : Params → Obj := fun P => (Obj.mk (Value.type "tuple") none (Data.seq #[] 0) #[])
noncomputable def o151 : Params → Obj := fun P => (Obj.mk Value.none none (Data.fields #[]) #[])
noncomputable def o152 : Params → Obj := fun P => (Obj.mk (Value.type "tuple") none (Data.seq #[(Value.str "self" 327), (Value.str "node" 328), (Value.str "predecessors" 329), (Value.str "nodeinfo" 330), (Value.str "pred" 331), (Value.str "pred_info" 332)] 0) #[])
noncomputable def o153 : Params → Obj := fun P => (Obj.mk (Value.type "tuple") none (Data.seq #[] 0) #[])
noncomputable def o154 : Params → Obj := fun P => (Obj.mk Value.none none (Data.func (fdOf 10 2 "TopologicalSorter.add" 0 Value.none Value.none Value.none Value.none none Value.none Value.none 0)) #[])
noncomputable def o155 : Params → Obj := fun P => (Obj.mk (Value.type "code") none (Data.fields #[(Value.str "add" 324), (Value.str "TopologicalSorter.add" 325), (Value.str "/claim/cut.py" 326), (Value.int 50 0), (Value.int 2 0), (Value.int 0 0), (Value.int 0 0), (Value.int 7 0), (Value.ref 108), (Value.bool true), (Value.int 181 0), (Value.ref 109), Value.none, (Value.ref 110), (Value.ref 111), (Value.ref 112), (Value.int 333 0), (Value.int 50 0), (Value.str "/claim/cut.py" 334)]) #[])
noncomputable def o156 : Params → Obj := fun P => (Obj.mk (Value.type "function") none (Data.func (fdOf 10 2 "TopologicalSorter.add" 3 Value.none Value.none Value.none (Value.str "cpy313.graphlib" 230) none (Value.ref 113) Value.none 0)) #[])
noncomputable def o157 : Params → Obj := fun P => (Obj.mk (Value.type "tuple") none (Data.seq #[] 0) #[])
noncomputable def o158 : Params → Obj := fun P => (Obj.mk Value.none none (Data.fields #[]) #[])
noncomputable def o159 : Params → Obj := fun P => (Obj.mk Value.none none (Data.func (fdOf 10 3 "TopologicalSorter.prepare" 0 Value.none Value.none Value.none Value.none none Value.none Value.none 0)) #[])
noncomputable def o160 : Params → Obj := fun P => (Obj.mk (Value.type "code") none (Data.fields #[(Value.str "prepare" 336), (Value.str "TopologicalSorter.prepare" 337), (Value.str "/claim/cut.py" 338), (Value.int 59 0), (Value.int 1 0), (Value.int 0 0), (Value.int 0 0), (Value.int 3 0), (Value.ref 115), (Value.bool true), (Value.int 181 0), (Value.ref 116), Value.none, Value.none, Value.none, (Value.ref 117), (Value.int 339 0), (Value.int 59 0), (Value.str "/claim/cut.py" 340)]) #[])
noncomputable def o161 : Params → Obj := fun P => (Obj.mk (Value.type "function") none (Data.func (fdOf 10 3 "TopologicalSorter.prepare" 3 Value.none Value.none Value.none (Value.str "cpy313.graphlib" 230) none (Value.ref 118) Value.none 0)) #[])
noncomputable def o162 : Params → Obj := fun P => (Obj.mk (Value.type "tuple") none (Data.seq #[] 0) #[])
noncomputable def o163 : Params → Obj := fun P => (Obj.mk Value.none none (Data.fields #[]) #[])
noncomputable def o164 : Params → Obj := fun P => (Obj.mk (Value.type "tuple") none (Data.seq #[(Value.str "self" 345), (Value.str "result" 346), (Value.str "n2i" 347), (Value.str "node" 348)] 0) #[])
noncomputable def o165 : Params → Obj := fun P => (Obj.mk (Value.type "tuple") none (Data.seq #[] 0) #[])
noncomputable def o166 : Params → Obj := fun P => (Obj.mk Value.none none (Data.func (fdOf 10 4 "TopologicalSorter.get_ready" 0 Value.none Value.none Value.none Value.none none Value.none Value.none 0)) #[])
noncomputable def o167 : Params → Obj := fun P => (Obj.mk (Value.type "code") none (Data.fields #[(Value.str "get_ready" 342), (Value.str "TopologicalSorter.get_ready" 343), (Value.str "/claim/cut.py" 344), (Value.int 67 0), (Value.int 1 0), (Value.int 0 0), (Value.int 0 0), (Value.int 3 0), (Value.ref 120), (Value.bool true), (Value.int 181 0), (Value.ref 121), Value.none, (Value.ref 122), (Value.ref 123), (Value.ref 124), (Value.int 349 0), (Value.int 67 0), (Value.str "/claim/cut.py" 350)]) #[])
noncomputable def o168 : Params → Obj := fun P => (Obj.mk (Value.type "function") none (Data.func (fdOf 10 4 "TopologicalSorter.get_ready" 3 Value.none Value.none Value.none (Value.str "cpy313.graphlib" 230) none (Value.ref 125) Value.none 0)) #[])
noncomputable def o169 : Params → Obj := fun P => (Obj.mk (Value.type "tuple") none (Data.seq #[] 0) #[])
noncomputable def o170 : Params → Obj := fun P => (Obj.mk Value.none none (Data.fields #[]) #[])
noncomputable def o171 : Params → Obj := fun P => (Obj.mk (Value.type "tuple") none (Data.seq #[(Value.str "self" 355)] 0) #[])
noncomputable def o172 : Params → Obj := fun P => (Obj.mk (Value.type "tuple") none (Data.seq #[] 0) #[])
noncomputable def o173 : Params → Obj := fun P => (Obj.mk Value.none none (Data.func (fdOf 10 5 "TopologicalSorter.is_active" 0 Value.none Value.none Value.none Value.none none Value.none Value.none 0)) #[])
noncomputable def o174 : Params → Obj := fun P => (Obj.mk (Value.type "code") none (Data.fields #[(Value.str "is_active" 352), (Value.str "TopologicalSorter.is_active" 353), (Value.str "/claim/cut.py" 354), (Value.int 78 0), (Value.int 1 0), (Value.int 0 0), (Value.int 0 0), (Value.int 3 0), (Value.ref 127), (Value.bool true), (Value.int 181 0), (Value.ref 128), Value.none, (Value.ref 129), (Value.ref 130), (Value.ref 131), (Value.int 356 0), (Value.int 78 0), (Value.str "/claim/cut.py" 357)]) #[])
noncomputable def o175 : Params → Obj := fun P => (Obj.mk (Value.type "function") none (Data.func (fdOf 10 5 "TopologicalSorter.is_active" 3 Value.none Value.none Value.none (Value.str "cpy313.graphlib" 230) none (Value.ref 132) Value.none 0)) #[])
noncomputable def o176 : Params → Obj := fun P => (Obj.mk (Value.type "tuple") none (Data.seq #[] 0) #[])
noncomputable def o177 : Params → Obj := fun P => (Obj.mk Value.none none (Data.fields #[]) #[])
noncomputable def o178 : Params → Obj := fun P => (Obj.mk (Value.type "tuple") none (Data.seq #[(Value.str "self" 362)] 0) #[])
noncomputable def o179 : Params → Obj := fun P => (Obj.mk (Value.type "tuple") none (Data.seq #[] 0) #[])
noncomputable def o180 : Params → Obj := fun P => (Obj.mk Value.none none (Data.func (fdOf 10 6 "TopologicalSorter.__bool__" 0 Value.none Value.none Value.none Value.none none Value.none Value.none 0)) #[])
noncomputable def o181 : Params → Obj := fun P => (Obj.mk (Value.type "code") none (Data.fields #[(Value.str "__bool__" 359), (Value.str "TopologicalSorter.__bool__" 360), (Value.str "/claim/cut.py" 361), (Value.int 83 0), (Value.int 1 0), (Value.int 0 0), (Value.int 0 0), (Value.int 3 0), (Value.ref 134), (Value.bool true), (Value.int 181 0), (Value.ref 135), Value.none, (Value.ref 136), (Value.ref 137), (Value.ref 138), (Value.int 363 0), (Value.int 83 0), (Value.str "/claim/cut.py" 364)]) #[])
noncomputable def o182 : Params → Obj := fun P => (Obj.mk (Value.type "function") none (Data.func (fdOf 10 6 "TopologicalSorter.__bool__" 3 Value.none Value.none Value.none (Value.str "cpy313.graphlib" 230) none (Value.ref 139) Value.none 0)) #[])
noncomputable def o183 : Params → Obj := fun P => (Obj.mk (Value.type "tuple") none (Data.seq #[] 0) #[])
noncomputable def o184 : Params → Obj := fun P => (Obj.mk Value.none none (Data.fields #[]) #[])
noncomputable def o185 : Params → Obj := fun P => (Obj.mk (Value.type "tuple") none (Data.seq #[(Value.str "self" 369), (Value.str "nodes" 370), (Value.str "n2i" 371), (Value.str "node" 372), (Value.str "nodeinfo" 373), (Value.str "stat" 374), (Value.str "successor" 375), (Value.str "successor_info" 376)] 0) #[])
noncomputable def o186 : Params → Obj := fun P => (Obj.mk (Value.type "tuple") none (Data.seq #[] 0) #[])
noncomputable def o187 : Params → Obj := fun P => (Obj.mk Value.none none (Data.func (fdOf 10 7 "TopologicalSorter.done" 0 Value.none Value.none Value.none Value.none none Value.none Value.none 0)) #[])
noncomputable def o188 : Params → Obj := fun P => (Obj.mk (Value.type "code") none (Data.fields #[(Value.str "done" 366), (Value.str "TopologicalSorter.done" 367), (Value.str "/claim/cut.py" 368), (Value.int 86 0), (Value.int 1 0), (Value.int 0 0), (Value.int 0 0), (Value.int 7 0), (Value.ref 141), (Value.bool true), (Value.int 181 0), (Value.ref 142), Value.none, (Value.ref 143), (Value.ref 144), (Value.ref 145), (Value.int 377 0), (Value.int 86 0), (Value.str "/claim/cut.py" 378)]) #[])
noncomputable def o189 : Params → Obj := fun P => (Obj.mk (Value.type "function") none (Data.func (fdOf 10 7 "TopologicalSorter.done" 3 Value.none Value.none Value.none (Value.str "cpy313.graphlib" 230) none (Value.ref 146) Value.none 0)) #[])
noncomputable def o190 : Params → Obj := fun P => (Obj.mk (Value.type "tuple") none (Data.seq #[] 0) #[])
noncomputable def o191 : Params → Obj := fun P => (Obj.mk Value.none none (Data.fields #[]) #[])
noncomputable def o192 : Params → Obj := fun P => (Obj.mk (Value.type "tuple") none (Data.seq #[(Value.str "self" 383), (Value.str "n2i" 384), (Value.str "stack" 385), (Value.str "itstack" 386), (Value.str "seen" 387), (Value.str "node2stacki" 388), (Value.str "node" 389)] 0) #[])
noncomputable def o193 : Params → Obj := fun P => (Obj.mk (Value.type "tuple") none (Data.seq #[] 0) #[])
noncomputable def o194 : Params → Obj := fun P => (Obj.mk Value.none none (Data.func (fdOf 10 8 "TopologicalSorter._find_cycle" 0 Value.none Value.none Value.none Value.none none Value.none Value.none 0)) #[])
noncomputable def o195 : Params → Obj := fun P => (Obj.mk (Value.type "code") none (Data.fields #[(Value.str "_find_cycle" 380), (Value.str "TopologicalSorter._find_cycle" 381), (Value.str "/claim/cut.py" 382), (Value.int 109 0), (Value.int 1 0), (Value.int 0 0), (Value.int 0 0), (Value.int 3 0), (Value.ref 148), (Value.bool true), (Value.int 181 0), (Value.ref 149), Value.none, (Value.ref 150), (Value.ref 151), (Value.ref 152), (Value.int 390 0), (Value.int 109 0), (Value.str "/claim/cut.py" 391)]) #[])
noncomputable def o196 : Params → Obj := fun P => (Obj.mk (Value.type "function") none (Data.func (fdOf 10 8 "TopologicalSorter._find_cycle" 3 Value.none Value.none Value.none (Value.str "cpy313.graphlib" 230) none (Value.ref 153) Value.none 0)) #[])
noncomputable def o197 : Params → Obj := fun P => (Obj.mk (Value.type "tuple") none (Data.seq #[] 0) #[])
noncomputable def o198 : Params → Obj := fun P => (Obj.mk Value.none none (Data.fields #[]) #[])
noncomputable def o199 : Params → Obj := fun P => (Obj.mk (Value.type "tuple") none (Data.seq #[(Value.str "self" 396)] 0) #[])
noncomputable def o200 : Params → Obj := fun P => (Obj.mk (Value.type "tuple") none (Data.seq #[] 0) #[])
noncomputable def o201 : Params → Obj := fun P => (Obj.mk Value.none none (Data.func (fdOf 10 9 "TopologicalSorter.static_order" 0 Value.none Value.none Value.none Value.none none Value.none Value.none 0)) #[])
noncomputable def o202 : Params → Obj := fun P => (Obj.mk (Value.type "code") none (Data.fields #[(Value.str "static_order" 393), (Value.str "TopologicalSorter.static_order" 394), (Value.str "/claim/cut.py" 395), (Value.int 138 0), (Value.int 1 0), (Value.int 0 0), (Value.int 0 0), (Value.int 3 0), (Value.ref 155), (Value.bool true), (Value.int 181 0), (Value.ref 156), Value.none, (Value.ref 157), (Value.ref 158), (Value.ref 159), (Value.int 397 0), (Value.int 138 0), (Value.str "/claim/cut.py" 398)]) #[])
noncomputable def o203 : Params → Obj := fun P => (Obj.mk (Value.type "function") none (Data.func (fdOf 10 9 "TopologicalSorter.static_order" 3 Value.none Value.none Value.none (Value.str "cpy313.graphlib" 230) none (Value.ref 160) Value.none 0)) #[])
noncomputable def o204 : Params → Obj := fun P => (Obj.mk (Value.type "tuple") none (Data.seq #[(Value.str "_nfinished" 400), (Value.str "_node2info" 401), (Value.str "_npassedout" 402), (Value.str "_ready_nodes" 403)] 0) #[])
noncomputable def o205 : Params → Obj := fun P => (Obj.mk (Value.type "dict") none (Data.dict #[⟨(PyData.keyHash P "__module__"), (Value.str "__module__" 300), (Value.str "cpy313.graphlib" 230)⟩, ⟨(PyData.keyHash P "__firstlineno__"), (Value.str "__firstlineno__" 304), (Value.int 34 303)⟩, ⟨(PyData.keyHash P "__init__"), (Value.str "__init__" 314), (Value.ref 100)⟩, ⟨(PyData.keyHash P "_get_nodeinfo"), (Value.str "_get_nodeinfo" 323), (Value.ref 107)⟩, ⟨(PyData.keyHash P "add"), (Value.str "add" 335), (Value.ref 114)⟩, ⟨(PyData.keyHash P "prepare"), (Value.str "prepare" 341), (Value.ref 119)⟩, ⟨(PyData.keyHash P "get_ready"), (Value.str "get_ready" 351), (Value.ref 126)⟩, ⟨(PyData.keyHash P "is_active"), (Value.str "is_active" 358), (Value.ref 133)⟩, ⟨(PyData.keyHash P "__bool__"), (Value.str "__bool__" 365), (Value.ref 140)⟩, ⟨(PyData.keyHash P "done"), (Value.str "done" 379), (Value.ref 147)⟩, ⟨(PyData.keyHash P "_find_cycle"), (Value.str "_find_cycle" 392), (Value.ref 154)⟩, ⟨(PyData.keyHash P "static_order"), (Value.str "static_order" 399), (Value.ref 161)⟩, ⟨(PyData.keyHash P "__static_attributes__"), (Value.str "__static_attributes__" 404), (Value.ref 162)⟩, ⟨(PyData.keyHash P "__dict__"), (Value.str "__dict__" 406), (Value.ref 165)⟩, ⟨(PyData.keyHash P "__weakref__"), (Value.str "__weakref__" 408), (Value.ref 166)⟩, ⟨(PyData.keyHash P "__doc__"), (Value.str "__doc__" 409), Value.none⟩] 4) #[])
noncomputable def o206 : Params → Obj := fun P => (Obj.mk (Value.type "type") none (Data.cls (ClassData.mk "TopologicalSorter" [(Value.type "object")] [(Value.ref 164), (Value.type "object")] 163 "TopologicalSorter" true [] [] false none false)) #[none, none, (some (Value.str "TopologicalSorter" 293)), (some (Value.str "TopologicalSorter" 301)), (some (Value.builtin "object.__new__")), (some (Value.bool true))])
noncomputable def o207 : Params → Obj := fun P => (Obj.mk (Value.type "getset_descriptor") none (Data.fields #[(Value.str "__dict__" 405), (Value.ref 164), (Value.builtin "function.__dict__"), (Value.builtin "function.__dict__#set")]) #[])
noncomputable def o208 : Params → Obj := fun P => (Obj.mk (Value.type "getset_descriptor") none (Data.fields #[(Value.str "__weakref__" 407), (Value.ref 164), (Value.builtin "ExceptionGroup.__weakref__"), Value.none]) #[])
noncomputable def o209 : Params → Obj := fun P => (Obj.mk (Value.type "super") none (Data.fields #[(Value.ref 164), (Value.ref 164), (Value.ref 164)]) #[])
noncomputable def o210 : Params → Obj := fun P => (Obj.mk (Value.type "builtin_function_or_method") none (Data.fields #[(Value.builtin "object.__init_subclass__"), (Value.ref 164)]) #[])
noncomputable def o211 : Params → Obj := fun P => (Obj.mk (Value.type "dict") none (Data.dict #[⟨(PyData.keyHash P "__name__"), (Value.str "__name__" 165), (Value.str "cpy313.stat" 412)⟩, ⟨(PyData.keyHash P "__doc__"), (Value.str "__doc__" 166), Value.none⟩, ⟨(PyData.keyHash P "__package__"), (Value.str "__package__" 167), Value.none⟩, ⟨(PyData.keyHash P "__loader__"), (Value.str "__loader__" 168), (Value.builtin "__main__.__loader__#opaque")⟩, ⟨(PyData.keyHash P "__spec__"), (Value.str "__spec__" 169), Value.none⟩, ⟨(PyData.keyHash P "__annotations__"), (Value.str "__annotations__" 170), (Value.ref 6)⟩, ⟨(PyData.keyHash P "__builtins__"), (Value.str "__builtins__" 171), (Value.ref 4)⟩, ⟨(PyData.keyHash P "__file__"), (Value.str "__file__" 173), (Value.str "/claim/cut.py" 172)⟩, ⟨(PyData.keyHash P "__cached__"), (Value.str "__cached__" 174), Value.none⟩, ⟨(PyData.keyHash P "_wall"), (Value.str "_wall" 193), (Value.ref 21)⟩, ⟨(PyData.keyHash P "StatisticsError"), (Value.str "StatisticsError" 213), (Value.ref 31)⟩, ⟨(PyData.keyHash P "median_low"), (Value.str "median_low" 221), (Value.ref 41)⟩, ⟨(PyData.keyHash P "median_high"), (Value.str "median_high" 229), (Value.ref 48)⟩, ⟨(PyData.keyHash P "_NODE_OUT"), (Value.str "_NODE_OUT" 234), (Value.int (-1) 233)⟩, ⟨(PyData.keyHash P "_NODE_DONE"), (Value.str "_NODE_DONE" 237), (Value.int (-2) 236)⟩, ⟨(PyData.keyHash P "_NodeInfo"), (Value.str "_NodeInfo" 274), (Value.ref 67)⟩, ⟨(PyData.keyHash P "CycleError"), (Value.str "CycleError" 292), (Value.ref 82)⟩, ⟨(PyData.keyHash P "TopologicalSorter"), (Value.str "TopologicalSorter" 411), (Value.ref 164)⟩, ⟨(PyData.keyHash P "S_IFMT"), (Value.str "S_IFMT" 420), (Value.ref 175)⟩, ⟨(PyData.keyHash P "S_IFDIR"), (Value.str "S_IFDIR" 422), (Value.int 16384 421)⟩, ⟨(PyData.keyHash P "S_IFCHR"), (Value.str "S_IFCHR" 424), (Value.int 8192 423)⟩, ⟨(PyData.keyHash P "S_IFBLK"), (Value.str "S_IFBLK" 426), (Value.int 24576 425)⟩, ⟨(PyData.keyHash P "S_IFREG"), (Value.str "S_IFREG" 428), (Value.int 32768 427)⟩, ⟨(PyData.keyHash P "S_IFIFO"), (Value.str "S_IFIFO" 430), (Value.int 4096 429)⟩, ⟨(PyData.keyHash P "S_IFLNK"), (Value.str "S_IFLNK" 432), (Value.int 40960 431)⟩, ⟨(PyData.keyHash P "S_IFSOCK"), (Value.str "S_IFSOCK" 434), (Value.int 49152 433)⟩, ⟨(PyData.keyHash P "S_ISUID"), (Value.str "S_ISUID" 436), (Value.int 2048 435)⟩, ⟨(PyData.keyHash P "S_ISGID"), (Value.str "S_ISGID" 438), (Value.int 1024 437)⟩, ⟨(PyData.keyHash P "S_ISVTX"), (Value.str "S_ISVTX" 440), (Value.int 512 439)⟩, ⟨(PyData.keyHash P "S_IRUSR"), (Value.str "S_IRUSR" 442), (Value.int 256 441)⟩, ⟨(PyData.keyHash P "S_IWUSR"), (Value.str "S_IWUSR" 444), (Value.int 128 443)⟩, ⟨(PyData.keyHash P "S_IXUSR"), (Value.str "S_IXUSR" 446), (Value.int 64 445)⟩, ⟨(PyData.keyHash P "S_IRGRP"), (Value.str "S_IRGRP" 448), (Value.int 32 447)⟩, ⟨(PyData.keyHash P "S_IWGRP"), (Value.str "S_IWGRP" 450), (Value.int 16 449)⟩, ⟨(PyData.keyHash P "S_IXGRP"), (Value.str "S_IXGRP" 452), (Value.int 8 451)⟩, ⟨(PyData.keyHash P "S_IROTH"), (Value.str "S_IROTH" 454), (Value.int 4 453)⟩, ⟨(PyData.keyHash P "S_IWOTH"), (Value.str "S_IWOTH" 456), (Value.int 2 455)⟩, ⟨(PyData.keyHash P "S_IXOTH"), (Value.str "S_IXOTH" 458), (Value.int 1 457)⟩, ⟨(PyData.keyHash P "_filemode_table"), (Value.str "_filemode_table" 484), (Value.ref 208)⟩] 39) #[])
noncomputable def o212 : Params → Obj := fun P => (Obj.mk Value.none none (Data.fields #[(Value.int 1 0), (Value.int 0 0), (Value.ref 20), (Value.int 5 0), (Value.int 0 0), (Value.ref 27), (Value.int 7 0), (Value.int 0 0), (Value.ref 40), (Value.int 16 0), (Value.int 0 0), (Value.ref 47), (Value.int 25 0), (Value.int 0 0), (Value.ref 54), (Value.int 32 0), (Value.int 0 0), (Value.ref 78), (Value.int 34 0), (Value.int 0 0), (Value.ref 91), (Value.int 141 0), (Value.int 0 0), (Value.ref 174)]) #[])
noncomputable def o213 : Params → Obj := fun P => (Obj.mk (Value.type "tuple") none (Data.seq #[] 0) #[])
noncomputable def o214 : Params → Obj := fun P => (Obj.mk Value.none none (Data.fields #[]) #[])
noncomputable def o215 : Params → Obj := fun P => (Obj.mk (Value.type "tuple") none (Data.seq #[(Value.str "mode" 417)] 0) #[])
noncomputable def o216 : Params → Obj := fun P => (Obj.mk (Value.type "tuple") none (Data.seq #[] 0) #[])
noncomputable def o217 : Params → Obj := fun P => (Obj.mk Value.none none (Data.func (fdOf 12 0 "S_IFMT" 0 Value.none Value.none Value.none Value.none none Value.none Value.none 0)) #[])
noncomputable def o218 : Params → Obj := fun P => (Obj.mk (Value.type "code") none (Data.fields #[(Value.str "S_IFMT" 414), (Value.str "S_IFMT" 415), (Value.str "/claim/cut.py" 416), (Value.int 141 0), (Value.int 1 0), (Value.int 0 0), (Value.int 0 0), (Value.int 3 0), (Value.ref 169), (Value.bool true), (Value.int 181 0), (Value.ref 170), Value.none, (Value.ref 171), (Value.ref 172), (Value.ref 173), (Value.int 418 0), (Value.int 141 0), (Value.str "/claim/cut.py" 419)]) #[])
noncomputable def o219 : Params → Obj := fun P => (Obj.mk (Value.type "function") none (Data.func (fdOf 12 0 "S_IFMT" 3 Value.none Value.none Value.none (Value.str "cpy313.stat" 412) none (Value.ref 174) Value.none 0)) #[])
noncomputable def o220 : Params → Obj := fun P => (Obj.mk (Value.type "tuple") none (Data.seq #[(Value.int 40960 431), (Value.str "l" 459)] 0) #[])
noncomputable def o221 : Params → Obj := fun P => (Obj.mk (Value.type "tuple") none (Data.seq #[(Value.int 49152 433), (Value.str "s" 460)] 0) #[])
noncomputable def o222 : Params → Obj := fun P => (Obj.mk (Value.type "tuple") none (Data.seq #[(Value.int 32768 427), (Value.str "-" 461)] 0) #[])
noncomputable def o223 : Params → Obj := fun P => (Obj.mk (Value.type "tuple") none (Data.seq #[(Value.int 24576 425), (Value.str "b" 462)] 0) #[])
noncomputable def o224 : Params → Obj := fun P => (Obj.mk (Value.type "tuple") none (Data.seq #[(Value.int 16384 421), (Value.str "d" 463)] 0) #[])
noncomputable def o225 : Params → Obj := fun P => (Obj.mk (Value.type "tuple") none (Data.seq #[(Value.int 8192 423), (Value.str "c" 464)] 0) #[])
noncomputable def o226 : Params → Obj := fun P => (Obj.mk (Value.type "tuple") none (Data.seq #[(Value.int 4096 429), (Value.str "p" 465)] 0) #[])
noncomputable def o227 : Params → Obj := fun P => (Obj.mk (Value.type "tuple") none (Data.seq #[(Value.ref 176), (Value.ref 177), (Value.ref 178), (Value.ref 179), (Value.ref 180), (Value.ref 181), (Value.ref 182)] 0) #[])
noncomputable def o228 : Params → Obj := fun P => (Obj.mk (Value.type "tuple") none (Data.seq #[(Value.int 256 441), (Value.str "r" 466)] 0) #[])
noncomputable def o229 : Params → Obj := fun P => (Obj.mk (Value.type "tuple") none (Data.seq #[(Value.ref 184)] 0) #[])
noncomputable def o230 : Params → Obj := fun P => (Obj.mk (Value.type "tuple") none (Data.seq #[(Value.int 128 443), (Value.str "w" 467)] 0) #[])
noncomputable def o231 : Params → Obj := fun P => (Obj.mk (Value.type "tuple") none (Data.seq #[(Value.ref 186)] 0) #[])
noncomputable def o232 : Params → Obj := fun P => (Obj.mk (Value.type "tuple") none (Data.seq #[(Value.int 2112 468), (Value.str "s" 469)] 0) #[])
noncomputable def o233 : Params → Obj := fun P => (Obj.mk (Value.type "tuple") none (Data.seq #[(Value.int 2048 435), (Value.str "S" 470)] 0) #[])
noncomputable def o234 : Params → Obj := fun P => (Obj.mk (Value.type "tuple") none (Data.seq #[(Value.int 64 445), (Value.str "x" 471)] 0) #[])
noncomputable def o235 : Params → Obj := fun P => (Obj.mk (Value.type "tuple") none (Data.seq #[(Value.ref 188), (Value.ref 189), (Value.ref 190)] 0) #[])
noncomputable def o236 : Params → Obj := fun P => (Obj.mk (Value.type "tuple") none (Data.seq #[(Value.int 32 447), (Value.str "r" 472)] 0) #[])
noncomputable def o237 : Params → Obj := fun P => (Obj.mk (Value.type "tuple") none (Data.seq #[(Value.ref 192)] 0) #[])
noncomputable def o238 : Params → Obj := fun P => (Obj.mk (Value.type "tuple") none (Data.seq #[(Value.int 16 449), (Value.str "w" 473)] 0) #[])
noncomputable def o239 : Params → Obj := fun P => (Obj.mk (Value.type "tuple") none (Data.seq #[(Value.ref 194)] 0) #[])
noncomputable def o240 : Params → Obj := fun P => (Obj.mk (Value.type "tuple") none (Data.seq #[(Value.int 1032 474), (Value.str "s" 475)] 0) #[])
noncomputable def o241 : Params → Obj := fun P => (Obj.mk (Value.type "tuple") none (Data.seq #[(Value.int 1024 437), (Value.str "S" 476)] 0) #[])
noncomputable def o242 : Params → Obj := fun P => (Obj.mk (Value.type "tuple") none (Data.seq #[(Value.int 8 451), (Value.str "x" 477)] 0) #[])
noncomputable def o243 : Params → Obj := fun P => (Obj.mk (Value.type "tuple") none (Data.seq #[(Value.ref 196), (Value.ref 197), (Value.ref 198)] 0) #[])
noncomputable def o244 : Params → Obj := fun P => (Obj.mk (Value.type "tuple") none (Data.seq #[(Value.int 4 453), (Value.str "r" 478)] 0) #[])
noncomputable def o245 : Params → Obj := fun P => (Obj.mk (Value.type "tuple") none (Data.seq #[(Value.ref 200)] 0) #[])
noncomputable def o246 : Params → Obj := fun P => (Obj.mk (Value.type "tuple") none (Data.seq #[(Value.int 2 455), (Value.str "w" 479)] 0) #[])
noncomputable def o247 : Params → Obj := fun P => (Obj.mk (Value.type "tuple") none (Data.seq #[(Value.ref 202)] 0) #[])
noncomputable def o248 : Params → Obj := fun P => (Obj.mk (Value.type "tuple") none (Data.seq #[(Value.int 513 480), (Value.str "t" 481)] 0) #[])
noncomputable def o249 : Params → Obj := fun P => (Obj.mk (Value.type "tuple") none (Data.seq #[(Value.int 512 439), (Value.str "T" 482)] 0) #[])
noncomputable def o250 : Params → Obj := fun P => (Obj.mk (Value.type "tuple") none (Data.seq #[(Value.int 1 457), (Value.str "x" 483)] 0) #[])
noncomputable def o251 : Params → Obj := fun P => (Obj.mk (Value.type "tuple") none (Data.seq #[(Value.ref 204), (Value.ref 205), (Value.ref 206)] 0) #[])
noncomputable def o252 : Params → Obj := fun P => (Obj.mk (Value.type "tuple") none (Data.seq #[(Value.ref 183), (Value.ref 185), (Value.ref 187), (Value.ref 191), (Value.ref 193), (Value.ref 195), (Value.ref 199), (Value.ref 201), (Value.ref 203), (Value.ref 207)] 0) #[])
noncomputable def o253 : Params → Obj := fun P => (Obj.mk (Value.type "dict") none (Data.dict #[⟨(PyData.keyHash P "__name__"), (Value.str "__name__" 165), (Value.str "law_oc0253_01" 497)⟩, ⟨(PyData.keyHash P "__doc__"), (Value.str "__doc__" 166), Value.none⟩, ⟨(PyData.keyHash P "__package__"), (Value.str "__package__" 167), Value.none⟩, ⟨(PyData.keyHash P "__loader__"), (Value.str "__loader__" 168), (Value.builtin "__main__.__loader__#opaque")⟩, ⟨(PyData.keyHash P "__spec__"), (Value.str "__spec__" 169), Value.none⟩, ⟨(PyData.keyHash P "__annotations__"), (Value.str "__annotations__" 170), (Value.ref 6)⟩, ⟨(PyData.keyHash P "__builtins__"), (Value.str "__builtins__" 171), (Value.ref 4)⟩, ⟨(PyData.keyHash P "__file__"), (Value.str "__file__" 173), (Value.str "/claim/cut.py" 172)⟩, ⟨(PyData.keyHash P "__cached__"), (Value.str "__cached__" 174), Value.none⟩, ⟨(PyData.keyHash P "_wall"), (Value.str "_wall" 193), (Value.ref 21)⟩, ⟨(PyData.keyHash P "StatisticsError"), (Value.str "StatisticsError" 213), (Value.ref 31)⟩, ⟨(PyData.keyHash P "median_low"), (Value.str "median_low" 221), (Value.ref 41)⟩, ⟨(PyData.keyHash P "median_high"), (Value.str "median_high" 229), (Value.ref 48)⟩, ⟨(PyData.keyHash P "_NODE_OUT"), (Value.str "_NODE_OUT" 234), (Value.int (-1) 233)⟩, ⟨(PyData.keyHash P "_NODE_DONE"), (Value.str "_NODE_DONE" 237), (Value.int (-2) 236)⟩, ⟨(PyData.keyHash P "_NodeInfo"), (Value.str "_NodeInfo" 274), (Value.ref 67)⟩, ⟨(PyData.keyHash P "CycleError"), (Value.str "CycleError" 292), (Value.ref 82)⟩, ⟨(PyData.keyHash P "TopologicalSorter"), (Value.str "TopologicalSorter" 411), (Value.ref 164)⟩, ⟨(PyData.keyHash P "S_IFMT"), (Value.str "S_IFMT" 420), (Value.ref 175)⟩, ⟨(PyData.keyHash P "S_IFDIR"), (Value.str "S_IFDIR" 422), (Value.int 16384 421)⟩, ⟨(PyData.keyHash P "S_IFCHR"), (Value.str "S_IFCHR" 424), (Value.int 8192 423)⟩, ⟨(PyData.keyHash P "S_IFBLK"), (Value.str "S_IFBLK" 426), (Value.int 24576 425)⟩, ⟨(PyData.keyHash P "S_IFREG"), (Value.str "S_IFREG" 428), (Value.int 32768 427)⟩, ⟨(PyData.keyHash P "S_IFIFO"), (Value.str "S_IFIFO" 430), (Value.int 4096 429)⟩, ⟨(PyData.keyHash P "S_IFLNK"), (Value.str "S_IFLNK" 432), (Value.int 40960 431)⟩, ⟨(PyData.keyHash P "S_IFSOCK"), (Value.str "S_IFSOCK" 434), (Value.int 49152 433)⟩, ⟨(PyData.keyHash P "S_ISUID"), (Value.str "S_ISUID" 436), (Value.int 2048 435)⟩, ⟨(PyData.keyHash P "S_ISGID"), (Value.str "S_ISGID" 438), (Value.int 1024 437)⟩, ⟨(PyData.keyHash P "S_ISVTX"), (Value.str "S_ISVTX" 440), (Value.int 512 439)⟩, ⟨(PyData.keyHash P "S_IRUSR"), (Value.str "S_IRUSR" 442), (Value.int 256 441)⟩, ⟨(PyData.keyHash P "S_IWUSR"), (Value.str "S_IWUSR" 444), (Value.int 128 443)⟩, ⟨(PyData.keyHash P "S_IXUSR"), (Value.str "S_IXUSR" 446), (Value.int 64 445)⟩, ⟨(PyData.keyHash P "S_IRGRP"), (Value.str "S_IRGRP" 448), (Value.int 32 447)⟩, ⟨(PyData.keyHash P "S_IWGRP"), (Value.str "S_IWGRP" 450), (Value.int 16 449)⟩, ⟨(PyData.keyHash P "S_IXGRP"), (Value.str "S_IXGRP" 452), (Value.int 8 451)⟩, ⟨(PyData.keyHash P "S_IROTH"), (Value.str "S_IROTH" 454), (Value.int 4 453)⟩, ⟨(PyData.keyHash P "S_IWOTH"), (Value.str "S_IWOTH" 456), (Value.int 2 455)⟩, ⟨(PyData.keyHash P "S_IXOTH"), (Value.str "S_IXOTH" 458), (Value.int 1 457)⟩, ⟨(PyData.keyHash P "_filemode_table"), (Value.str "_filemode_table" 484), (Value.ref 208)⟩, ⟨(PyData.keyHash P "filemode"), (Value.str "filemode" 496), (Value.ref 215)⟩, ⟨(PyData.keyHash P "_law_node"), (Value.str "_law_node" 504), (Value.ref 220)⟩, ⟨(PyData.keyHash P "_law_signs"), (Value.str "_law_signs" 510), (Value.ref 225)⟩, ⟨(PyData.keyHash P "_law_listing"), (Value.str "_law_listing" 516), (Value.ref 230)⟩, ⟨(PyData.keyHash P "_law_run"), (Value.str "_law_run" 522), (Value.ref 235)⟩, ⟨(PyData.keyHash P "_law_gate"), (Value.str "_law_gate" 528), (Value.ref 240)⟩, ⟨(PyData.keyHash P "_law_due"), (Value.str "_law_due" 534), (Value.ref 245)⟩, ⟨(PyData.keyHash P "law"), (Value.str "law" 540), (Value.ref 250)⟩] 47) #[])
noncomputable def o254 : Params → Obj := fun P => (Obj.mk Value.none none (Data.fields #[(Value.int 1 0), (Value.int 0 0), (Value.ref 20), (Value.int 5 0), (Value.int 0 0), (Value.ref 27), (Value.int 7 0), (Value.int 0 0), (Value.ref 40), (Value.int 16 0), (Value.int 0 0), (Value.ref 47), (Value.int 25 0), (Value.int 0 0), (Value.ref 54), (Value.int 32 0), (Value.int 0 0), (Value.ref 78), (Value.int 34 0), (Value.int 0 0), (Value.ref 91), (Value.int 141 0), (Value.int 0 0), (Value.ref 174), (Value.int 163 0), (Value.int 0 0), (Value.ref 214), (Value.int 181 0), (Value.int 0 0), (Value.ref 219), (Value.int 186 0), (Value.int 0 0), (Value.ref 224), (Value.int 188 0), (Value.int 0 0), (Value.ref 229), (Value.int 191 0), (Value.int 0 0), (Value.ref 234), (Value.int 209 0), (Value.int 0 0), (Value.ref 239), (Value.int 212 0), (Value.int 0 0), (Value.ref 244), (Value.int 221 0), (Value.int 0 0), (Value.ref 249)]) #[])
noncomputable def o255 : Params → Obj := fun P => (Obj.mk (Value.type "tuple") none (Data.seq #[] 0) #[])
noncomputable def o256 : Params → Obj := fun P => (Obj.mk Value.none none (Data.fields #[]) #[])
noncomputable def o257 : Params → Obj := fun P => (Obj.mk (Value.type "tuple") none (Data.seq #[(Value.str "mode" 488), (Value.str "perm" 489), (Value.str "index" 490), (Value.str "table" 491), (Value.str "bit" 492), (Value.str "char" 493)] 0) #[])
noncomputable def o258 : Params → Obj := fun P => (Obj.mk (Value.type "tuple") none (Data.seq #[] 0) #[])
noncomputable def o259 : Params → Obj := fun P => (Obj.mk Value.none none (Data.func (fdOf 33 0 "filemode" 0 Value.none Value.none Value.none Value.none none Value.none Value.none 0)) #[])
noncomputable def o260 : Params → Obj := fun P => (Obj.mk (Value.type "code") none (Data.fields #[(Value.str "filemode" 485), (Value.str "filemode" 486), (Value.str "/claim/cut.py" 487), (Value.int 163 0), (Value.int 1 0), (Value.int 0 0), (Value.int 0 0), (Value.int 3 0), (Value.ref 209), (Value.bool true), (Value.int 181 0), (Value.ref 210), Value.none, (Value.ref 211), (Value.ref 212), (Value.ref 213), (Value.int 494 0), (Value.int 163 0), (Value.str "/claim/cut.py" 495)]) #[])
noncomputable def o261 : Params → Obj := fun P => (Obj.mk (Value.type "function") none (Data.func (fdOf 33 0 "filemode" 3 Value.none Value.none Value.none (Value.str "cpy313.stat" 412) none (Value.ref 214) Value.none 0)) #[])
noncomputable def o262 : Params → Obj := fun P => (Obj.mk (Value.type "tuple") none (Data.seq #[] 0) #[])
noncomputable def o263 : Params → Obj := fun P => (Obj.mk Value.none none (Data.fields #[]) #[])
noncomputable def o264 : Params → Obj := fun P => (Obj.mk Value.none none (Data.func (fdOf 35 0 "_law_node" 0 Value.none Value.none Value.none Value.none none Value.none Value.none 0)) #[])
noncomputable def o265 : Params → Obj := fun P => (Obj.mk (Value.type "code") none (Data.fields #[(Value.str "_law_node" 499), (Value.str "_law_node" 500), (Value.str "/claim/cut.py" 501), (Value.int 181 0), (Value.int 3 0), (Value.int 0 0), (Value.int 0 0), (Value.int 3 0), (Value.ref 216), (Value.bool true), (Value.int 181 0), (Value.ref 217), Value.none, Value.none, Value.none, (Value.ref 218), (Value.int 502 0), (Value.int 181 0), (Value.str "/claim/cut.py" 503)]) #[])
noncomputable def o266 : Params → Obj := fun P => (Obj.mk (Value.type "function") none (Data.func (fdOf 35 0 "_law_node" 3 Value.none Value.none Value.none (Value.str "law_oc0253_01" 497) none (Value.ref 219) Value.none 0)) #[])
noncomputable def o267 : Params → Obj := fun P => (Obj.mk (Value.type "tuple") none (Data.seq #[] 0) #[])
noncomputable def o268 : Params → Obj := fun P => (Obj.mk Value.none none (Data.fields #[]) #[])
noncomputable def o269 : Params → Obj := fun P => (Obj.mk Value.none none (Data.func (fdOf 36 0 "_law_signs" 0 Value.none Value.none Value.none Value.none none Value.none Value.none 0)) #[])
noncomputable def o270 : Params → Obj := fun P => (Obj.mk (Value.type "code") none (Data.fields #[(Value.str "_law_signs" 505), (Value.str "_law_signs" 506), (Value.str "/claim/cut.py" 507), (Value.int 186 0), (Value.int 1 0), (Value.int 0 0), (Value.int 0 0), (Value.int 3 0), (Value.ref 221), (Value.bool true), (Value.int 181 0), (Value.ref 222), Value.none, Value.none, Value.none, (Value.ref 223), (Value.int 508 0), (Value.int 186 0), (Value.str "/claim/cut.py" 509)]) #[])
noncomputable def o271 : Params → Obj := fun P => (Obj.mk (Value.type "function") none (Data.func (fdOf 36 0 "_law_signs" 3 Value.none Value.none Value.none (Value.str "law_oc0253_01" 497) none (Value.ref 224) Value.none 0)) #[])
noncomputable def o272 : Params → Obj := fun P => (Obj.mk (Value.type "tuple") none (Data.seq #[] 0) #[])
noncomputable def o273 : Params → Obj := fun P => (Obj.mk Value.none none (Data.fields #[]) #[])
noncomputable def o274 : Params → Obj := fun P => (Obj.mk Value.none none (Data.func (fdOf 37 0 "_law_listing" 0 Value.none Value.none Value.none Value.none none Value.none Value.none 0)) #[])
noncomputable def o275 : Params → Obj := fun P => (Obj.mk (Value.type "code") none (Data.fields #[(Value.str "_law_listing" 511), (Value.str "_law_listing" 512), (Value.str "/claim/cut.py" 513), (Value.int 188 0), (Value.int 1 0), (Value.int 0 0), (Value.int 0 0), (Value.int 3 0), (Value.ref 226), (Value.bool true), (Value.int 181 0), (Value.ref 227), Value.none, Value.none, Value.none, (Value.ref 228), (Value.int 514 0), (Value.int 188 0), (Value.str "/claim/cut.py" 515)]) #[])
noncomputable def o276 : Params → Obj := fun P => (Obj.mk (Value.type "function") none (Data.func (fdOf 37 0 "_law_listing" 3 Value.none Value.none Value.none (Value.str "law_oc0253_01" 497) none (Value.ref 229) Value.none 0)) #[])
noncomputable def o277 : Params → Obj := fun P => (Obj.mk (Value.type "tuple") none (Data.seq #[] 0) #[])
noncomputable def o278 : Params → Obj := fun P => (Obj.mk Value.none none (Data.fields #[]) #[])
noncomputable def o279 : Params → Obj := fun P => (Obj.mk Value.none none (Data.func (fdOf 38 0 "_law_run" 0 Value.none Value.none Value.none Value.none none Value.none Value.none 0)) #[])
noncomputable def o280 : Params → Obj := fun P => (Obj.mk (Value.type "code") none (Data.fields #[(Value.str "_law_run" 517), (Value.str "_law_run" 518), (Value.str "/claim/cut.py" 519), (Value.int 191 0), (Value.int 1 0), (Value.int 0 0), (Value.int 0 0), (Value.int 3 0), (Value.ref 231), (Value.bool true), (Value.int 181 0), (Value.ref 232), Value.none, Value.none, Value.none, (Value.ref 233), (Value.int 520 0), (Value.int 191 0), (Value.str "/claim/cut.py" 521)]) #[])
noncomputable def o281 : Params → Obj := fun P => (Obj.mk (Value.type "function") none (Data.func (fdOf 38 0 "_law_run" 3 Value.none Value.none Value.none (Value.str "law_oc0253_01" 497) none (Value.ref 234) Value.none 0)) #[])
noncomputable def o282 : Params → Obj := fun P => (Obj.mk (Value.type "tuple") none (Data.seq #[] 0) #[])
noncomputable def o283 : Params → Obj := fun P => (Obj.mk Value.none none (Data.fields #[]) #[])
noncomputable def o284 : Params → Obj := fun P => (Obj.mk Value.none none (Data.func (fdOf 39 0 "_law_gate" 0 Value.none Value.none Value.none Value.none none Value.none Value.none 0)) #[])
noncomputable def o285 : Params → Obj := fun P => (Obj.mk (Value.type "code") none (Data.fields #[(Value.str "_law_gate" 523), (Value.str "_law_gate" 524), (Value.str "/claim/cut.py" 525), (Value.int 209 0), (Value.int 2 0), (Value.int 0 0), (Value.int 0 0), (Value.int 3 0), (Value.ref 236), (Value.bool true), (Value.int 181 0), (Value.ref 237), Value.none, Value.none, Value.none, (Value.ref 238), (Value.int 526 0), (Value.int 209 0), (Value.str "/claim/cut.py" 527)]) #[])
noncomputable def o286 : Params → Obj := fun P => (Obj.mk (Value.type "function") none (Data.func (fdOf 39 0 "_law_gate" 3 Value.none Value.none Value.none (Value.str "law_oc0253_01" 497) none (Value.ref 239) Value.none 0)) #[])
noncomputable def o287 : Params → Obj := fun P => (Obj.mk (Value.type "tuple") none (Data.seq #[] 0) #[])
noncomputable def o288 : Params → Obj := fun P => (Obj.mk Value.none none (Data.fields #[]) #[])
noncomputable def o289 : Params → Obj := fun P => (Obj.mk Value.none none (Data.func (fdOf 40 0 "_law_due" 0 Value.none Value.none Value.none Value.none none Value.none Value.none 0)) #[])
noncomputable def o290 : Params → Obj := fun P => (Obj.mk (Value.type "code") none (Data.fields #[(Value.str "_law_due" 529), (Value.str "_law_due" 530), (Value.str "/claim/cut.py" 531), (Value.int 212 0), (Value.int 1 0), (Value.int 0 0), (Value.int 0 0), (Value.int 3 0), (Value.ref 241), (Value.bool true), (Value.int 181 0), (Value.ref 242), Value.none, Value.none, Value.none, (Value.ref 243), (Value.int 532 0), (Value.int 212 0), (Value.str "/claim/cut.py" 533)]) #[])
noncomputable def o291 : Params → Obj := fun P => (Obj.mk (Value.type "function") none (Data.func (fdOf 40 0 "_law_due" 3 Value.none Value.none Value.none (Value.str "law_oc0253_01" 497) none (Value.ref 244) Value.none 0)) #[])
noncomputable def o292 : Params → Obj := fun P => (Obj.mk (Value.type "tuple") none (Data.seq #[] 0) #[])
noncomputable def o293 : Params → Obj := fun P => (Obj.mk Value.none none (Data.fields #[]) #[])
noncomputable def o294 : Params → Obj := fun P => (Obj.mk Value.none none (Data.func (fdOf 41 0 "law" 0 Value.none Value.none Value.none Value.none none Value.none Value.none 0)) #[])
noncomputable def o295 : Params → Obj := fun P => (Obj.mk (Value.type "code") none (Data.fields #[(Value.str "law" 535), (Value.str "law" 536), (Value.str "/claim/cut.py" 537), (Value.int 221 0), (Value.int 1 0), (Value.int 0 0), (Value.int 0 0), (Value.int 3 0), (Value.ref 246), (Value.bool true), (Value.int 181 0), (Value.ref 247), Value.none, Value.none, Value.none, (Value.ref 248), (Value.int 538 0), (Value.int 221 0), (Value.str "/claim/cut.py" 539)]) #[])
noncomputable def o296 : Params → Obj := fun P => (Obj.mk (Value.type "function") none (Data.func (fdOf 41 0 "law" 3 Value.none Value.none Value.none (Value.str "law_oc0253_01" 497) none (Value.ref 249) Value.none 0)) #[])
noncomputable def tree47 : Params → BT := fun P => (BT.node (boot_o_0 P) (BT.node (boot_o_1 P) (BT.node (boot_o_3 P) (BT.node (boot_o_7 P) BT.nil BT.nil) (BT.node (o43 P) BT.nil BT.nil)) (BT.node (boot_o_5 P) (BT.node (boot_o_9 P) BT.nil BT.nil) (BT.node (o45 P) BT.nil BT.nil))) (BT.node (boot_o_2 P) (BT.node (boot_o_4 P) (BT.node (boot_o_8 P) BT.nil BT.nil) (BT.node (o44 P) BT.nil BT.nil)) (BT.node (boot_o_6 P) (BT.node (boot_o_10 P) BT.nil BT.nil) (BT.node (o46 P) BT.nil BT.nil))))
noncomputable def tree84 : Params → BT := fun P => (BT.node (boot_o_0 P) (BT.node (boot_o_1 P) (BT.node (o49 P) (BT.node (boot_o_7 P) (BT.node (o51 P) (BT.node (o67 P) BT.nil BT.nil) (BT.node (o83 P) BT.nil BT.nil)) (BT.node (o59 P) (BT.node (o75 P) BT.nil BT.nil) BT.nil)) (BT.node (o43 P) (BT.node (o55 P) (BT.node (o71 P) BT.nil BT.nil) BT.nil) (BT.node (o63 P) (BT.node (o79 P) BT.nil BT.nil) BT.nil))) (BT.node (boot_o_5 P) (BT.node (boot_o_9 P) (BT.node (o53 P) (BT.node (o69 P) BT.nil BT.nil) BT.nil) (BT.node (o61 P) (BT.node (o77 P) BT.nil BT.nil) BT.nil)) (BT.node (o45 P) (BT.node (o57 P) (BT.node (o73 P) BT.nil BT.nil) BT.nil) (BT.node (o65 P) (BT.node (o81 P) BT.nil BT.nil) BT.nil)))) (BT.node (boot_o_2 P) (BT.node (boot_o_4 P) (BT.node (boot_o_8 P) (BT.node (o52 P) (BT.node (o68 P) BT.nil BT.nil) (BT.node (o84 P) BT.nil BT.nil)) (BT.node (o60 P) (BT.node (o76 P) BT.nil BT.nil) BT.nil)) (BT.node (o50 P) (BT.node (o56 P) (BT.node (o72 P) BT.nil BT.nil) BT.nil) (BT.node (o64 P) (BT.node (o80 P) BT.nil BT.nil) BT.nil))) (BT.node (boot_o_6 P) (BT.node (boot_o_10 P) (BT.node (o54 P) (BT.node (o70 P) BT.nil BT.nil) BT.nil) (BT.node (o62 P) (BT.node (o78 P) BT.nil BT.nil) BT.nil)) (BT.node (o46 P) (BT.node (o58 P) (BT.node (o74 P) BT.nil BT.nil) BT.nil) (BT.node (o66 P) (BT.node (o82 P) BT.nil BT.nil) BT.nil)))))
noncomputable def tree110 : Params → BT := fun P => (BT.node (boot_o_0 P) (BT.node (boot_o_1 P) (BT.node (o85 P) (BT.node (boot_o_7 P) (BT.node (o51 P) (BT.node (o67 P) (BT.node (o101 P) BT.nil BT.nil) BT.nil) (BT.node (o83 P) BT.nil BT.nil)) (BT.node (o59 P) (BT.node (o75 P) (BT.node (o109 P) BT.nil BT.nil) BT.nil) (BT.node (o93 P) BT.nil BT.nil))) (BT.node (o43 P) (BT.node (o55 P) (BT.node (o71 P) (BT.node (o105 P) BT.nil BT.nil) BT.nil) (BT.node (o89 P) BT.nil BT.nil)) (BT.node (o63 P) (BT.node (o79 P) BT.nil BT.nil) (BT.node (o97 P) BT.nil BT.nil)))) (BT.node (boot_o_5 P) (BT.node (boot_o_9 P) (BT.node (o53 P) (BT.node (o69 P) (BT.node (o103 P) BT.nil BT.nil) BT.nil) (BT.node (o87 P) BT.nil BT.nil)) (BT.node (o61 P) (BT.node (o77 P) BT.nil BT.nil) (BT.node (o95 P) BT.nil BT.nil))) (BT.node (o45 P) (BT.node (o57 P) (BT.node (o73 P) (BT.node (o107 P) BT.nil BT.nil) BT.nil) (BT.node (o91 P) BT.nil BT.nil)) (BT.node (o65 P) (BT.node (o81 P) BT.nil BT.nil) (BT.node (o99 P) BT.nil BT.nil))))) (BT.node (boot_o_2 P) (BT.node (boot_o_4 P) (BT.node (boot_o_8 P) (BT.node (o52 P) (BT.node (o68 P) (BT.node (o102 P) BT.nil BT.nil) BT.nil) (BT.node (o84 P) BT.nil BT.nil)) (BT.node (o60 P) (BT.node (o76 P) (BT.node (o110 P) BT.nil BT.nil) BT.nil) (BT.node (o94 P) BT.nil BT.nil))) (BT.node (o86 P) (BT.node (o56 P) (BT.node (o72 P) (BT.node (o106 P) BT.nil BT.nil) BT.nil) (BT.node (o90 P) BT.nil BT.nil)) (BT.node (o64 P) (BT.node (o80 P) BT.nil BT.nil) (BT.node (o98 P) BT.nil BT.nil)))) (BT.node (boot_o_6 P) (BT.node (boot_o_10 P) (BT.node (o54 P) (BT.node (o70 P) (BT.node (o104 P) BT.nil BT.nil) BT.nil) (BT.node (o88 P) BT.nil BT.nil)) (BT.node (o62 P) (BT.node (o78 P) BT.nil BT.nil) (BT.node (o96 P) BT.nil BT.nil))) (BT.node (o46 P) (BT.node (o58 P) (BT.node (o74 P) (BT.node (o108 P) BT.nil BT.nil) BT.nil) (BT.node (o92 P) BT.nil BT.nil)) (BT.node (o66 P) (BT.node (o82 P) BT.nil BT.nil) (BT.node (o100 P) BT.nil BT.nil))))))
noncomputable def tree125 : Params → BT := fun P => (BT.node (boot_o_0 P) (BT.node (boot_o_1 P) (BT.node (o111 P) (BT.node (boot_o_7 P) (BT.node (o51 P) (BT.node (o67 P) (BT.node (o101 P) BT.nil BT.nil) BT.nil) (BT.node (o83 P) (BT.node (o119 P) BT.nil BT.nil) BT.nil)) (BT.node (o59 P) (BT.node (o75 P) (BT.node (o109 P) BT.nil BT.nil) BT.nil) (BT.node (o93 P) BT.nil BT.nil))) (BT.node (o43 P) (BT.node (o55 P) (BT.node (o71 P) (BT.node (o105 P) BT.nil BT.nil) BT.nil) (BT.node (o89 P) (BT.node (o123 P) BT.nil BT.nil) BT.nil)) (BT.node (o63 P) (BT.node (o79 P) (BT.node (o115 P) BT.nil BT.nil) BT.nil) (BT.node (o97 P) BT.nil BT.nil)))) (BT.node (boot_o_5 P) (BT.node (boot_o_9 P) (BT.node (o53 P) (BT.node (o69 P) (BT.node (o103 P) BT.nil BT.nil) BT.nil) (BT.node (o87 P) (BT.node (o121 P) BT.nil BT.nil) BT.nil)) (BT.node (o61 P) (BT.node (o77 P) (BT.node (o113 P) BT.nil BT.nil) BT.nil) (BT.node (o95 P) BT.nil BT.nil))) (BT.node (o45 P) (BT.node (o57 P) (BT.node (o73 P) (BT.node (o107 P) BT.nil BT.nil) BT.nil) (BT.node (o91 P) (BT.node (o125 P) BT.nil BT.nil) BT.nil)) (BT.node (o65 P) (BT.node (o81 P) (BT.node (o117 P) BT.nil BT.nil) BT.nil) (BT.node (o99 P) BT.nil BT.nil))))) (BT.node (boot_o_2 P) (BT.node (boot_o_4 P) (BT.node (boot_o_8 P) (BT.node (o52 P) (BT.node (o68 P) (BT.node (o102 P) BT.nil BT.nil) BT.nil) (BT.node (o84 P) (BT.node (o120 P) BT.nil BT.nil) BT.nil)) (BT.node (o60 P) (BT.node (o76 P) (BT.node (o110 P) BT.nil BT.nil) BT.nil) (BT.node (o94 P) BT.nil BT.nil))) (BT.node (o112 P) (BT.node (o56 P) (BT.node (o72 P) (BT.node (o106 P) BT.nil BT.nil) BT.nil) (BT.node (o90 P) (BT.node (o124 P) BT.nil BT.nil) BT.nil)) (BT.node (o64 P) (BT.node (o80 P) (BT.node (o116 P) BT.nil BT.nil) BT.nil) (BT.node (o98 P) BT.nil BT.nil)))) (BT.node (boot_o_6 P) (BT.node (boot_o_10 P) (BT.node (o54 P) (BT.node (o70 P) (BT.node (o104 P) BT.nil BT.nil) BT.nil) (BT.node (o88 P) (BT.node (o122 P) BT.nil BT.nil) BT.nil)) (BT.node (o62 P) (BT.node (o78 P) (BT.node (o114 P) BT.nil BT.nil) BT.nil) (BT.node (o96 P) BT.nil BT.nil))) (BT.node (o46 P) (BT.node (o58 P) (BT.node (o74 P) (BT.node (o108 P) BT.nil BT.nil) BT.nil) (BT.node (o92 P) BT.nil BT.nil)) (BT.node (o66 P) (BT.node (o82 P) (BT.node (o118 P) BT.nil BT.nil) BT.nil) (BT.node (o100 P) BT.nil BT.nil))))))
noncomputable def tree210 : Params → BT := fun P => (BT.node (boot_o_0 P) (BT.node (boot_o_1 P) (BT.node (o126 P) (BT.node (boot_o_7 P) (BT.node (o51 P) (BT.node (o67 P) (BT.node (o101 P) (BT.node (o169 P) BT.nil BT.nil) BT.nil) (BT.node (o137 P) (BT.node (o201 P) BT.nil BT.nil) BT.nil)) (BT.node (o83 P) (BT.node (o119 P) (BT.node (o185 P) BT.nil BT.nil) BT.nil) (BT.node (o153 P) BT.nil BT.nil))) (BT.node (o59 P) (BT.node (o75 P) (BT.node (o109 P) (BT.node (o177 P) BT.nil BT.nil) BT.nil) (BT.node (o145 P) (BT.node (o209 P) BT.nil BT.nil) BT.nil)) (BT.node (o93 P) (BT.node (o129 P) (BT.node (o193 P) BT.nil BT.nil) BT.nil) (BT.node (o161 P) BT.nil BT.nil)))) (BT.node (o43 P) (BT.node (o55 P) (BT.node (o71 P) (BT.node (o105 P) (BT.node (o173 P) BT.nil BT.nil) BT.nil) (BT.node (o141 P) (BT.node (o205 P) BT.nil BT.nil) BT.nil)) (BT.node (o89 P) (BT.node (o123 P) (BT.node (o189 P) BT.nil BT.nil) BT.nil) (BT.node (o157 P) BT.nil BT.nil))) (BT.node (o63 P) (BT.node (o79 P) (BT.node (o115 P) (BT.node (o181 P) BT.nil BT.nil) BT.nil) (BT.node (o149 P) BT.nil BT.nil)) (BT.node (o97 P) (BT.node (o133 P) (BT.node (o197 P) BT.nil BT.nil) BT.nil) (BT.node (o165 P) BT.nil BT.nil))))) (BT.node (boot_o_5 P) (BT.node (boot_o_9 P) (BT.node (o53 P) (BT.node (o69 P) (BT.node (o103 P) (BT.node (o171 P) BT.nil BT.nil) BT.nil) (BT.node (o139 P) (BT.node (o203 P) BT.nil BT.nil) BT.nil)) (BT.node (o87 P) (BT.node (o121 P) (BT.node (o187 P) BT.nil BT.nil) BT.nil) (BT.node (o155 P) BT.nil BT.nil))) (BT.node (o61 P) (BT.node (o77 P) (BT.node (o113 P) (BT.node (o179 P) BT.nil BT.nil) BT.nil) (BT.node (o147 P) BT.nil BT.nil)) (BT.node (o95 P) (BT.node (o131 P) (BT.node (o195 P) BT.nil BT.nil) BT.nil) (BT.node (o163 P) BT.nil BT.nil)))) (BT.node (o45 P) (BT.node (o57 P) (BT.node (o73 P) (BT.node (o107 P) (BT.node (o175 P) BT.nil BT.nil) BT.nil) (BT.node (o143 P) (BT.node (o207 P) BT.nil BT.nil) BT.nil)) (BT.node (o91 P) (BT.node (o125 P) (BT.node (o191 P) BT.nil BT.nil) BT.nil) (BT.node (o159 P) BT.nil BT.nil))) (BT.node (o65 P) (BT.node (o81 P) (BT.node (o117 P) (BT.node (o183 P) BT.nil BT.nil) BT.nil) (BT.node (o151 P) BT.nil BT.nil)) (BT.node (o99 P) (BT.node (o135 P) (BT.node (o199 P) BT.nil BT.nil) BT.nil) (BT.node (o167 P) BT.nil BT.nil)))))) (BT.node (boot_o_2 P) (BT.node (boot_o_4 P) (BT.node (boot_o_8 P) (BT.node (o52 P) (BT.node (o68 P) (BT.node (o102 P) (BT.node (o170 P) BT.nil BT.nil) BT.nil) (BT.node (o138 P) (BT.node (o202 P) BT.nil BT.nil) BT.nil)) (BT.node (o84 P) (BT.node (o120 P) (BT.node (o186 P) BT.nil BT.nil) BT.nil) (BT.node (o154 P) BT.nil BT.nil))) (BT.node (o60 P) (BT.node (o76 P) (BT.node (o110 P) (BT.node (o178 P) BT.nil BT.nil) BT.nil) (BT.node (o146 P) (BT.node (o210 P) BT.nil BT.nil) BT.nil)) (BT.node (o94 P) (BT.node (o130 P) (BT.node (o194 P) BT.nil BT.nil) BT.nil) (BT.node (o162 P) BT.nil BT.nil)))) (BT.node (o127 P) (BT.node (o56 P) (BT.node (o72 P) (BT.node (o106 P) (BT.node (o174 P) BT.nil BT.nil) BT.nil) (BT.node (o142 P) (BT.node (o206 P) BT.nil BT.nil) BT.nil)) (BT.node (o90 P) (BT.node (o124 P) (BT.node (o190 P) BT.nil BT.nil) BT.nil) (BT.node (o158 P) BT.nil BT.nil))) (BT.node (o64 P) (BT.node (o80 P) (BT.node (o116 P) (BT.node (o182 P) BT.nil BT.nil) BT.nil) (BT.node (o150 P) BT.nil BT.nil)) (BT.node (o98 P) (BT.node (o134 P) (BT.node (o198 P) BT.nil BT.nil) BT.nil) (BT.node (o166 P) BT.nil BT.nil))))) (BT.node (boot_o_6 P) (BT.node (boot_o_10 P) (BT.node (o54 P) (BT.node (o70 P) (BT.node (o104 P) (BT.node (o172 P) BT.nil BT.nil) BT.nil) (BT.node (o140 P) (BT.node (o204 P) BT.nil BT.nil) BT.nil)) (BT.node (o88 P) (BT.node (o122 P) (BT.node (o188 P) BT.nil BT.nil) BT.nil) (BT.node (o156 P) BT.nil BT.nil))) (BT.node (o62 P) (BT.node (o78 P) (BT.node (o114 P) (BT.node (o180 P) BT.nil BT.nil) BT.nil) (BT.node (o148 P) BT.nil BT.nil)) (BT.node (o96 P) (BT.node (o132 P) (BT.node (o196 P) BT.nil BT.nil) BT.nil) (BT.node (o164 P) BT.nil BT.nil)))) (BT.node (o46 P) (BT.node (o58 P) (BT.node (o74 P) (BT.node (o108 P) (BT.node (o176 P) BT.nil BT.nil) BT.nil) (BT.node (o144 P) (BT.node (o208 P) BT.nil BT.nil) BT.nil)) (BT.node (o92 P) (BT.node (o128 P) (BT.node (o192 P) BT.nil BT.nil) BT.nil) (BT.node (o160 P) BT.nil BT.nil))) (BT.node (o66 P) (BT.node (o82 P) (BT.node (o118 P) (BT.node (o184 P) BT.nil BT.nil) BT.nil) (BT.node (o152 P) BT.nil BT.nil)) (BT.node (o100 P) (BT.node (o136 P) (BT.node (o200 P) BT.nil BT.nil) BT.nil) (BT.node (o168 P) BT.nil BT.nil)))))))
noncomputable def tree252 : Params → BT := fun P => (BT.node (boot_o_0 P) (BT.node (boot_o_1 P) (BT.node (o211 P) (BT.node (boot_o_7 P) (BT.node (o51 P) (BT.node (o67 P) (BT.node (o101 P) (BT.node (o169 P) BT.nil BT.nil) (BT.node (o235 P) BT.nil BT.nil)) (BT.node (o137 P) (BT.node (o201 P) BT.nil BT.nil) BT.nil)) (BT.node (o83 P) (BT.node (o119 P) (BT.node (o185 P) BT.nil BT.nil) (BT.node (o251 P) BT.nil BT.nil)) (BT.node (o153 P) (BT.node (o219 P) BT.nil BT.nil) BT.nil))) (BT.node (o59 P) (BT.node (o75 P) (BT.node (o109 P) (BT.node (o177 P) BT.nil BT.nil) (BT.node (o243 P) BT.nil BT.nil)) (BT.node (o145 P) (BT.node (o209 P) BT.nil BT.nil) BT.nil)) (BT.node (o93 P) (BT.node (o129 P) (BT.node (o193 P) BT.nil BT.nil) BT.nil) (BT.node (o161 P) (BT.node (o227 P) BT.nil BT.nil) BT.nil)))) (BT.node (o43 P) (BT.node (o55 P) (BT.node (o71 P) (BT.node (o105 P) (BT.node (o173 P) BT.nil BT.nil) (BT.node (o239 P) BT.nil BT.nil)) (BT.node (o141 P) (BT.node (o205 P) BT.nil BT.nil) BT.nil)) (BT.node (o89 P) (BT.node (o123 P) (BT.node (o189 P) BT.nil BT.nil) BT.nil) (BT.node (o157 P) (BT.node (o223 P) BT.nil BT.nil) BT.nil))) (BT.node (o63 P) (BT.node (o79 P) (BT.node (o115 P) (BT.node (o181 P) BT.nil BT.nil) (BT.node (o247 P) BT.nil BT.nil)) (BT.node (o149 P) (BT.node (o215 P) BT.nil BT.nil) BT.nil)) (BT.node (o97 P) (BT.node (o133 P) (BT.node (o197 P) BT.nil BT.nil) BT.nil) (BT.node (o165 P) (BT.node (o231 P) BT.nil BT.nil) BT.nil))))) (BT.node (boot_o_5 P) (BT.node (boot_o_9 P) (BT.node (o53 P) (BT.node (o69 P) (BT.node (o103 P) (BT.node (o171 P) BT.nil BT.nil) (BT.node (o237 P) BT.nil BT.nil)) (BT.node (o139 P) (BT.node (o203 P) BT.nil BT.nil) BT.nil)) (BT.node (o87 P) (BT.node (o121 P) (BT.node (o187 P) BT.nil BT.nil) BT.nil) (BT.node (o155 P) (BT.node (o221 P) BT.nil BT.nil) BT.nil))) (BT.node (o61 P) (BT.node (o77 P) (BT.node (o113 P) (BT.node (o179 P) BT.nil BT.nil) (BT.node (o245 P) BT.nil BT.nil)) (BT.node (o147 P) (BT.node (o213 P) BT.nil BT.nil) BT.nil)) (BT.node (o95 P) (BT.node (o131 P) (BT.node (o195 P) BT.nil BT.nil) BT.nil) (BT.node (o163 P) (BT.node (o229 P) BT.nil BT.nil) BT.nil)))) (BT.node (o45 P) (BT.node (o57 P) (BT.node (o73 P) (BT.node (o107 P) (BT.node (o175 P) BT.nil BT.nil) (BT.node (o241 P) BT.nil BT.nil)) (BT.node (o143 P) (BT.node (o207 P) BT.nil BT.nil) BT.nil)) (BT.node (o91 P) (BT.node (o125 P) (BT.node (o191 P) BT.nil BT.nil) BT.nil) (BT.node (o159 P) (BT.node (o225 P) BT.nil BT.nil) BT.nil))) (BT.node (o65 P) (BT.node (o81 P) (BT.node (o117 P) (BT.node (o183 P) BT.nil BT.nil) (BT.node (o249 P) BT.nil BT.nil)) (BT.node (o151 P) (BT.node (o217 P) BT.nil BT.nil) BT.nil)) (BT.node (o99 P) (BT.node (o135 P) (BT.node (o199 P) BT.nil BT.nil) BT.nil) (BT.node (o167 P) (BT.node (o233 P) BT.nil BT.nil) BT.nil)))))) (BT.node (boot_o_2 P) (BT.node (boot_o_4 P) (BT.node (boot_o_8 P) (BT.node (o52 P) (BT.node (o68 P) (BT.node (o102 P) (BT.node (o170 P) BT.nil BT.nil) (BT.node (o236 P) BT.nil BT.nil)) (BT.node (o138 P) (BT.node (o202 P) BT.nil BT.nil) BT.nil)) (BT.node (o84 P) (BT.node (o120 P) (BT.node (o186 P) BT.nil BT.nil) (BT.node (o252 P) BT.nil BT.nil)) (BT.node (o154 P) (BT.node (o220 P) BT.nil BT.nil) BT.nil))) (BT.node (o60 P) (BT.node (o76 P) (BT.node (o110 P) (BT.node (o178 P) BT.nil BT.nil) (BT.node (o244 P) BT.nil BT.nil)) (BT.node (o146 P) (BT.node (o210 P) BT.nil BT.nil) BT.nil)) (BT.node (o94 P) (BT.node (o130 P) (BT.node (o194 P) BT.nil BT.nil) BT.nil) (BT.node (o162 P) (BT.node (o228 P) BT.nil BT.nil) BT.nil)))) (BT.node (o212 P) (BT.node (o56 P) (BT.node (o72 P) (BT.node (o106 P) (BT.node (o174 P) BT.nil BT.nil) (BT.node (o240 P) BT.nil BT.nil)) (BT.node (o142 P) (BT.node (o206 P) BT.nil BT.nil) BT.nil)) (BT.node (o90 P) (BT.node (o124 P) (BT.node (o190 P) BT.nil BT.nil) BT.nil) (BT.node (o158 P) (BT.node (o224 P) BT.nil BT.nil) BT.nil))) (BT.node (o64 P) (BT.node (o80 P) (BT.node (o116 P) (BT.node (o182 P) BT.nil BT.nil) (BT.node (o248 P) BT.nil BT.nil)) (BT.node (o150 P) (BT.node (o216 P) BT.nil BT.nil) BT.nil)) (BT.node (o98 P) (BT.node (o134 P) (BT.node (o198 P) BT.nil BT.nil) BT.nil) (BT.node (o166 P) (BT.node (o232 P) BT.nil BT.nil) BT.nil))))) (BT.node (boot_o_6 P) (BT.node (boot_o_10 P) (BT.node (o54 P) (BT.node (o70 P) (BT.node (o104 P) (BT.node (o172 P) BT.nil BT.nil) (BT.node (o238 P) BT.nil BT.nil)) (BT.node (o140 P) (BT.node (o204 P) BT.nil BT.nil) BT.nil)) (BT.node (o88 P) (BT.node (o122 P) (BT.node (o188 P) BT.nil BT.nil) BT.nil) (BT.node (o156 P) (BT.node (o222 P) BT.nil BT.nil) BT.nil))) (BT.node (o62 P) (BT.node (o78 P) (BT.node (o114 P) (BT.node (o180 P) BT.nil BT.nil) (BT.node (o246 P) BT.nil BT.nil)) (BT.node (o148 P) (BT.node (o214 P) BT.nil BT.nil) BT.nil)) (BT.node (o96 P) (BT.node (o132 P) (BT.node (o196 P) BT.nil BT.nil) BT.nil) (BT.node (o164 P) (BT.node (o230 P) BT.nil BT.nil) BT.nil)))) (BT.node (o46 P) (BT.node (o58 P) (BT.node (o74 P) (BT.node (o108 P) (BT.node (o176 P) BT.nil BT.nil) (BT.node (o242 P) BT.nil BT.nil)) (BT.node (o144 P) (BT.node (o208 P) BT.nil BT.nil) BT.nil)) (BT.node (o92 P) (BT.node (o128 P) (BT.node (o192 P) BT.nil BT.nil) BT.nil) (BT.node (o160 P) (BT.node (o226 P) BT.nil BT.nil) BT.nil))) (BT.node (o66 P) (BT.node (o82 P) (BT.node (o118 P) (BT.node (o184 P) BT.nil BT.nil) (BT.node (o250 P) BT.nil BT.nil)) (BT.node (o152 P) (BT.node (o218 P) BT.nil BT.nil) BT.nil)) (BT.node (o100 P) (BT.node (o136 P) (BT.node (o200 P) BT.nil BT.nil) BT.nil) (BT.node (o168 P) (BT.node (o234 P) BT.nil BT.nil) BT.nil)))))))
noncomputable def tree296 : Params → BT := fun P => (BT.node (boot_o_0 P) (BT.node (boot_o_1 P) (BT.node (o253 P) (BT.node (boot_o_7 P) (BT.node (o51 P) (BT.node (o67 P) (BT.node (o101 P) (BT.node (o169 P) BT.nil BT.nil) (BT.node (o235 P) BT.nil BT.nil)) (BT.node (o137 P) (BT.node (o201 P) BT.nil BT.nil) (BT.node (o269 P) BT.nil BT.nil))) (BT.node (o83 P) (BT.node (o119 P) (BT.node (o185 P) BT.nil BT.nil) (BT.node (o251 P) BT.nil BT.nil)) (BT.node (o153 P) (BT.node (o219 P) BT.nil BT.nil) (BT.node (o285 P) BT.nil BT.nil)))) (BT.node (o59 P) (BT.node (o75 P) (BT.node (o109 P) (BT.node (o177 P) BT.nil BT.nil) (BT.node (o243 P) BT.nil BT.nil)) (BT.node (o145 P) (BT.node (o209 P) BT.nil BT.nil) (BT.node (o277 P) BT.nil BT.nil))) (BT.node (o93 P) (BT.node (o129 P) (BT.node (o193 P) BT.nil BT.nil) (BT.node (o261 P) BT.nil BT.nil)) (BT.node (o161 P) (BT.node (o227 P) BT.nil BT.nil) (BT.node (o293 P) BT.nil BT.nil))))) (BT.node (o43 P) (BT.node (o55 P) (BT.node (o71 P) (BT.node (o105 P) (BT.node (o173 P) BT.nil BT.nil) (BT.node (o239 P) BT.nil BT.nil)) (BT.node (o141 P) (BT.node (o205 P) BT.nil BT.nil) (BT.node (o273 P) BT.nil BT.nil))) (BT.node (o89 P) (BT.node (o123 P) (BT.node (o189 P) BT.nil BT.nil) (BT.node (o257 P) BT.nil BT.nil)) (BT.node (o157 P) (BT.node (o223 P) BT.nil BT.nil) (BT.node (o289 P) BT.nil BT.nil)))) (BT.node (o63 P) (BT.node (o79 P) (BT.node (o115 P) (BT.node (o181 P) BT.nil BT.nil) (BT.node (o247 P) BT.nil BT.nil)) (BT.node (o149 P) (BT.node (o215 P) BT.nil BT.nil) (BT.node (o281 P) BT.nil BT.nil))) (BT.node (o97 P) (BT.node (o133 P) (BT.node (o197 P) BT.nil BT.nil) (BT.node (o265 P) BT.nil BT.nil)) (BT.node (o165 P) (BT.node (o231 P) BT.nil BT.nil) BT.nil))))) (BT.node (boot_o_5 P) (BT.node (boot_o_9 P) (BT.node (o53 P) (BT.node (o69 P) (BT.node (o103 P) (BT.node (o171 P) BT.nil BT.nil) (BT.node (o237 P) BT.nil BT.nil)) (BT.node (o139 P) (BT.node (o203 P) BT.nil BT.nil) (BT.node (o271 P) BT.nil BT.nil))) (BT.node (o87 P) (BT.node (o121 P) (BT.node (o187 P) BT.nil BT.nil) (BT.node (o255 P) BT.nil BT.nil)) (BT.node (o155 P) (BT.node (o221 P) BT.nil BT.nil) (BT.node (o287 P) BT.nil BT.nil)))) (BT.node (o61 P) (BT.node (o77 P) (BT.node (o113 P) (BT.node (o179 P) BT.nil BT.nil) (BT.node (o245 P) BT.nil BT.nil)) (BT.node (o147 P) (BT.node (o213 P) BT.nil BT.nil) (BT.node (o279 P) BT.nil BT.nil))) (BT.node (o95 P) (BT.node (o131 P) (BT.node (o195 P) BT.nil BT.nil) (BT.node (o263 P) BT.nil BT.nil)) (BT.node (o163 P) (BT.node (o229 P) BT.nil BT.nil) (BT.node (o295 P) BT.nil BT.nil))))) (BT.node (o45 P) (BT.node (o57 P) (BT.node (o73 P) (BT.node (o107 P) (BT.node (o175 P) BT.nil BT.nil) (BT.node (o241 P) BT.nil BT.nil)) (BT.node (o143 P) (BT.node (o207 P) BT.nil BT.nil) (BT.node (o275 P) BT.nil BT.nil))) (BT.node (o91 P) (BT.node (o125 P) (BT.node (o191 P) BT.nil BT.nil) (BT.node (o259 P) BT.nil BT.nil)) (BT.node (o159 P) (BT.node (o225 P) BT.nil BT.nil) (BT.node (o291 P) BT.nil BT.nil)))) (BT.node (o65 P) (BT.node (o81 P) (BT.node (o117 P) (BT.node (o183 P) BT.nil BT.nil) (BT.node (o249 P) BT.nil BT.nil)) (BT.node (o151 P) (BT.node (o217 P) BT.nil BT.nil) (BT.node (o283 P) BT.nil BT.nil))) (BT.node (o99 P) (BT.node (o135 P) (BT.node (o199 P) BT.nil BT.nil) (BT.node (o267 P) BT.nil BT.nil)) (BT.node (o167 P) (BT.node (o233 P) BT.nil BT.nil) BT.nil)))))) (BT.node (boot_o_2 P) (BT.node (boot_o_4 P) (BT.node (boot_o_8 P) (BT.node (o52 P) (BT.node (o68 P) (BT.node (o102 P) (BT.node (o170 P) BT.nil BT.nil) (BT.node (o236 P) BT.nil BT.nil)) (BT.node (o138 P) (BT.node (o202 P) BT.nil BT.nil) (BT.node (o270 P) BT.nil BT.nil))) (BT.node (o84 P) (BT.node (o120 P) (BT.node (o186 P) BT.nil BT.nil) (BT.node (o252 P) BT.nil BT.nil)) (BT.node (o154 P) (BT.node (o220 P) BT.nil BT.nil) (BT.node (o286 P) BT.nil BT.nil)))) (BT.node (o60 P) (BT.node (o76 P) (BT.node (o110 P) (BT.node (o178 P) BT.nil BT.nil) (BT.node (o244 P) BT.nil BT.nil)) (BT.node (o146 P) (BT.node (o210 P) BT.nil BT.nil) (BT.node (o278 P) BT.nil BT.nil))) (BT.node (o94 P) (BT.node (o130 P) (BT.node (o194 P) BT.nil BT.nil) (BT.node (o262 P) BT.nil BT.nil)) (BT.node (o162 P) (BT.node (o228 P) BT.nil BT.nil) (BT.node (o294 P) BT.nil BT.nil))))) (BT.node (o254 P) (BT.node (o56 P) (BT.node (o72 P) (BT.node (o106 P) (BT.node (o174 P) BT.nil BT.nil) (BT.node (o240 P) BT.nil BT.nil)) (BT.node (o142 P) (BT.node (o206 P) BT.nil BT.nil) (BT.node (o274 P) BT.nil BT.nil))) (BT.node (o90 P) (BT.node (o124 P) (BT.node (o190 P) BT.nil BT.nil) (BT.node (o258 P) BT.nil BT.nil)) (BT.node (o158 P) (BT.node (o224 P) BT.nil BT.nil) (BT.node (o290 P) BT.nil BT.nil)))) (BT.node (o64 P) (BT.node (o80 P) (BT.node (o116 P) (BT.node (o182 P) BT.nil BT.nil) (BT.node (o248 P) BT.nil BT.nil)) (BT.node (o150 P) (BT.node (o216 P) BT.nil BT.nil) (BT.node (o282 P) BT.nil BT.nil))) (BT.node (o98 P) (BT.node (o134 P) (BT.node (o198 P) BT.nil BT.nil) (BT.node (o266 P) BT.nil BT.nil)) (BT.node (o166 P) (BT.node (o232 P) BT.nil BT.nil) BT.nil))))) (BT.node (boot_o_6 P) (BT.node (boot_o_10 P) (BT.node (o54 P) (BT.node (o70 P) (BT.node (o104 P) (BT.node (o172 P) BT.nil BT.nil) (BT.node (o238 P) BT.nil BT.nil)) (BT.node (o140 P) (BT.node (o204 P) BT.nil BT.nil) (BT.node (o272 P) BT.nil BT.nil))) (BT.node (o88 P) (BT.node (o122 P) (BT.node (o188 P) BT.nil BT.nil) (BT.node (o256 P) BT.nil BT.nil)) (BT.node (o156 P) (BT.node (o222 P) BT.nil BT.nil) (BT.node (o288 P) BT.nil BT.nil)))) (BT.node (o62 P) (BT.node (o78 P) (BT.node (o114 P) (BT.node (o180 P) BT.nil BT.nil) (BT.node (o246 P) BT.nil BT.nil)) (BT.node (o148 P) (BT.node (o214 P) BT.nil BT.nil) (BT.node (o280 P) BT.nil BT.nil))) (BT.node (o96 P) (BT.node (o132 P) (BT.node (o196 P) BT.nil BT.nil) (BT.node (o264 P) BT.nil BT.nil)) (BT.node (o164 P) (BT.node (o230 P) BT.nil BT.nil) (BT.node (o296 P) BT.nil BT.nil))))) (BT.node (o46 P) (BT.node (o58 P) (BT.node (o74 P) (BT.node (o108 P) (BT.node (o176 P) BT.nil BT.nil) (BT.node (o242 P) BT.nil BT.nil)) (BT.node (o144 P) (BT.node (o208 P) BT.nil BT.nil) (BT.node (o276 P) BT.nil BT.nil))) (BT.node (o92 P) (BT.node (o128 P) (BT.node (o192 P) BT.nil BT.nil) (BT.node (o260 P) BT.nil BT.nil)) (BT.node (o160 P) (BT.node (o226 P) BT.nil BT.nil) (BT.node (o292 P) BT.nil BT.nil)))) (BT.node (o66 P) (BT.node (o82 P) (BT.node (o118 P) (BT.node (o184 P) BT.nil BT.nil) (BT.node (o250 P) BT.nil BT.nil)) (BT.node (o152 P) (BT.node (o218 P) BT.nil BT.nil) (BT.node (o284 P) BT.nil BT.nil))) (BT.node (o100 P) (BT.node (o136 P) (BT.node (o200 P) BT.nil BT.nil) (BT.node (o268 P) BT.nil BT.nil)) (BT.node (o168 P) (BT.node (o234 P) BT.nil BT.nil) BT.nil)))))))
noncomputable def env41 : Env := { scope := pg.main.scope, locals := mainNs, globals := mainNs, cells := [], code := .ref 13, frame := some 14 }
noncomputable abbrev bE : List Stmt := behindTheImports pg
noncomputable abbrev cE : Code := .body bE env41
noncomputable abbrev stT (t : Params → BT) (n k : Nat) (w : World) (os : OsState) : SharedT := ⟨t w.params, n, {}, #[], {}, k, os⟩
abbrev rL : OpenLaw := PySem.Challenge.rw_oc0253_01
abbrev rW : OpenRow := OpenLaw.row PySem.Challenge.rw_oc0253_01
theorem sd1 : sreFenced pg.main = true := by first | (rw [PySem.W.Fast.te11788848310118352699]; kernel_rfl) | kernel_rfl
theorem sd2 : ((moduleNames pg.main.body).isEmpty || lookedIntoSs (moduleNames pg.main.body) pg.main.body) = true := by first | (rw [PySem.W.Fast.te9807087744658564304, PySem.W.Fast.te12862048085361865435]; kernel_rfl) | kernel_rfl
theorem sd3 : namesResolve pg = true := by first | (rw [PySem.W.Fast.te8377067652309620493]; kernel_rfl) | kernel_rfl
theorem sd4 : pg.boundNames.all (fun n => !worldNames.contains n) = true := by first | (rw [PySem.W.Fast.te18344453789297297638, PySem.W.Fast.te14412699480532031325]; kernel_rfl) | kernel_rfl
theorem sd5a : (!(importedModules pg.main.body).all cThrough.contains) = false := by first | (rw [PySem.W.Fast.te5923862056798008813, PySem.W.Fast.te17691160309236699985]; kernel_rfl) | kernel_rfl
theorem sd5b : ((["vars", "dir", "locals"] : List Str).filter (readsOut pg pg.main.body)) = [] := by first | (rw [PySem.W.Fast.te13343964577679436407]; kernel_rfl) | kernel_rfl
theorem sd5c : noRoadLSs { strict := false, foot := none, bare := [] } pg.main.body = true := by first | (rw [PySem.W.Fast.te8326940854005059898]; kernel_rfl) | kernel_rfl
theorem sd5 : noRoadLSs { strict := !(importedModules pg.main.body).all cThrough.contains, foot := none, bare := (["vars", "dir", "locals"] : List Str).filter (readsOut pg pg.main.body) } pg.main.body = true := by rw [sd5a, sd5b]; exact sd5c
theorem sd6 : namesMeet pg pg.main.body (fun _ n => attrL n) = true := by first | (rw [PySem.W.Fast.te17119622794617984870, PySem.W.Fast.te17868728402115742887]; kernel_rfl) | kernel_rfl
theorem sdL : looksOpen pg = true := look_both (look_both (look_both (look_both (look_both sd1 sd2) sd3) sd4) sd5) sd6
theorem sdP : OpenRow.partSaid rW = true := by
  refine look_both (look_both (look_both (look_both (look_both (look_both (look_both (look_both (look_both (look_both (look_both (look_both (look_both sdL ?_) ?_) ?_) ?_) ?_) ?_) ?_) ?_) ?_) ?_) ?_) ?_) ?_
  all_goals kernel_rfl
theorem sdR : OpenRow.wellSaid rW = true := by
  refine look_both (look_both sdP ?_) ?_
  · first | (rw [PySem.W.Fast.te18344453789297297638]; kernel_rfl) | kernel_rfl
  · kernel_rfl
theorem sdN : noRoadLSs { strict := true, foot := some rL.bound', writes := rL.writes, may := rL.may } rL.footing = true := by first | (rw [PySem.W.Fast.te8326940854005059898]; kernel_rfl) | kernel_rfl
theorem sdO : namesMeet rL.prog rL.above (fun _ n => !rL.own.contains n) = true := by first | (rw [PySem.W.Fast.te17119622794617984870]; kernel_rfl) | kernel_rfl
theorem said : PySem.Challenge.rw_oc0253_01.wellSaid = true := by
  refine look_both (look_both (look_both (look_both (look_both (look_both (look_both (look_both (look_both (look_both (look_both (look_both (look_both (look_both (look_both (look_both (look_both (look_both sdR ?_) ?_) ?_) ?_) ?_) sdN) ?_) ?_) ?_) ?_) ?_) ?_) ?_) ?_) ?_) ?_) sdO) ?_
  all_goals ((try rw [PySem.W.Fast.te8326940854005059898]); (try rw [PySem.W.Fast.te17119622794617984870]); (try rw [PySem.W.Fast.te9558739934217749035]); (try rw [PySem.W.Fast.te16286561074155671207]); (try rw [PySem.W.Fast.te6984425678791042302]); (try rw [PySem.W.Fast.te12879404354523853263]); (try rw [PySem.W.Fast.te482687673346738481]); (try rw [PySem.W.Fast.te797321630700447069]); (try rw [PySem.W.Fast.te9572597257264208301]); (try rw [PySem.W.Fast.te10792542408131684335]); (try rw [PySem.W.Fast.named_eq]); (try rw [PySem.W.Fast.te10501279942588096481]); (try rw [PySem.W.Fast.te8179353310426384613]); (try rw [PySem.W.Fast.te7723801398212525404]); kernel_rfl)
theorem opens : opening pg = plainProg pg.main.scope.names := by kernel_rfl
theorem fences (s : Shared) : fenceModules? pg s = some s := by kernel_rfl
theorem sizeH (w : World) : ((boot_heap w.params).isNs mainGlobals && (#[] : Array GenState).size == 0, (boot_heap w.params).objs.size, (boot_heap w.params).nsMap mainGlobals "__annotations__") = (true, 11, some (.ref 6)) := by kernel_rfl
theorem preH (w : World) (os : OsState) : topGo treeTable pg w 11 (some (.ref 6)) 12 ⟨boot_heap w.params, #[], boot_drawn, boot_toks, os⟩ (topStub pg) = some ((stT tree47 15 187 w os).abs, ⟨denote treeTable cE, cE, ⟨0, 0, 0, 0⟩, [topFrame ⟨0, 0, 0, 0⟩]⟩) := by kernel_rfl
theorem blockH (w : World) (os : OsState) : segRun treeTable pg w 11 (some (.ref 6)) 1 1 (stT tree47 15 187 w os).abs (blockOf bE env41 cE ⟨0, 0, 0, 0⟩ [topFrame ⟨0, 0, 0, 0⟩]) = some (.next, (stT tree47 15 187 w os).abs, cE, ⟨0, 0, 0, 0⟩) := by kernel_rfl
noncomputable abbrev sts0 : List Stmt := (bE.drop 0).take 8
noncomputable abbrev sts1 : List Stmt := (bE.drop 8).take 1
noncomputable abbrev sts2 : List Stmt := (bE.drop 9).take 1
noncomputable abbrev sts3 : List Stmt := (bE.drop 10).take 1
noncomputable abbrev sts4 : List Stmt := (bE.drop 11).take 22
noncomputable abbrev sts5 : List Stmt := (bE.drop 33).take 9
theorem run0 (w : World) (os : OsState) : segRunT treeTable pg w 11 (some (.ref 6)) 1 322 (stT tree47 15 187 w os) (piecesOf sts0 env41 cE ⟨0, 0, 0, 0⟩ [topFrame ⟨0, 0, 0, 0⟩]) = some (.next, stT tree84 49 238 w os, cE, ⟨24, 0, 24, 10⟩) := by first | (rw [PySem.W.Fast.te10110043849684766642, PySem.W.Fast.te14364793385576792824]; kernel_rfl) | kernel_rfl
theorem run1 (w : World) (os : OsState) : segRunT treeTable pg w 11 (some (.ref 6)) 1 264 (stT tree84 49 238 w os) (piecesOf sts1 env41 cE ⟨24, 0, 24, 10⟩ [topFrame ⟨0, 0, 0, 0⟩]) = some (.next, stT tree110 73 275 w os, cE, ⟨25, 0, 31, 28⟩) := by first | (rw [PySem.W.Fast.te10110043849684766642, PySem.W.Fast.te14364793385576792824]; kernel_rfl) | kernel_rfl
theorem run2 (w : World) (os : OsState) : segRunT treeTable pg w 11 (some (.ref 6)) 1 187 (stT tree110 73 275 w os) (piecesOf sts2 env41 cE ⟨25, 0, 31, 28⟩ [topFrame ⟨0, 0, 0, 0⟩]) = some (.next, stT tree125 86 293 w os, cE, ⟨32, 0, 33, 8⟩) := by first | (rw [PySem.W.Fast.te10110043849684766642, PySem.W.Fast.te14364793385576792824]; kernel_rfl) | kernel_rfl
theorem run3 (w : World) (os : OsState) : segRunT treeTable pg w 11 (some (.ref 6)) 1 528 (stT tree125 86 293 w os) (piecesOf sts3 env41 cE ⟨32, 0, 33, 8⟩ [topFrame ⟨0, 0, 0, 0⟩]) = some (.next, stT tree210 169 412 w os, cE, ⟨34, 0, 139, 16⟩) := by first | (rw [PySem.W.Fast.te10110043849684766642, PySem.W.Fast.te14364793385576792824]; kernel_rfl) | kernel_rfl
theorem run4 (w : World) (os : OsState) : segRunT treeTable pg w 11 (some (.ref 6)) 1 371 (stT tree210 169 412 w os) (piecesOf sts4 env41 cE ⟨34, 0, 139, 16⟩ [topFrame ⟨0, 0, 0, 0⟩]) = some (.next, stT tree252 209 485 w os, cE, ⟨162, 0, 162, 15⟩) := by first | (rw [PySem.W.Fast.te10110043849684766642, PySem.W.Fast.te14364793385576792824]; kernel_rfl) | kernel_rfl
theorem run5 (w : World) (os : OsState) : segRunT treeTable pg w 11 (some (.ref 6)) 1 226 (stT tree252 209 485 w os) (piecesOf sts5 env41 cE ⟨162, 0, 162, 15⟩ [topFrame ⟨0, 0, 0, 0⟩]) = some (.next, stT tree296 251 541 w os, cE, ⟨221, 0, 224, 45⟩) := by first | (rw [PySem.W.Fast.te10110043849684766642, PySem.W.Fast.te14364793385576792824]; kernel_rfl) | kernel_rfl
theorem finH (w : World) (os : OsState) : topRun treeTable pg w 11 (some (.ref 6)) 2 (stT tree296 251 541 w os).abs ⟨doneF .next, cE, ⟨221, 0, 224, 45⟩, [topFrame ⟨0, 0, 0, 0⟩]⟩ = some (stT tree296 251 541 w os).abs := by kernel_rfl
theorem bodyH : bE = sts0 ++ (sts1 ++ (sts2 ++ (sts3 ++ (sts4 ++ (sts5 ++ []))))) := by kernel_rfl
theorem runH (w : World) (os : OsState) : topRun treeTable pg w 11 (some (.ref 6)) (12 + (1 + (322 + (264 + (187 + (528 + (371 + (226 + 2)))))))) ⟨boot_heap w.params, #[], boot_drawn, boot_toks, os⟩ (topStub pg) = some (stT tree296 251 541 w os).abs :=
  go_top (preH w os) (piece_block (blockH w os) (bodyH ▸ (show topRun treeTable pg w 11 (some (.ref 6)) _ _ (restOf (sts0 ++ (sts1 ++ (sts2 ++ (sts3 ++ (sts4 ++ (sts5 ++ [])))))) env41 cE ⟨0, 0, 0, 0⟩ [topFrame ⟨0, 0, 0, 0⟩]) = _ from piece_app (segRun_of (run0 w os)) (piece_app (segRun_of (run1 w os)) (piece_app (segRun_of (run2 w os)) (piece_app (segRun_of (run3 w os)) (piece_app (segRun_of (run4 w os)) (piece_app (segRun_of (run5 w os)) (finH w os)))))))))
noncomputable abbrev HZ (P : Params) : Heap := absHeap (tree296 P) 251 {}
noncomputable abbrev XT : Shared → Bool := fun s => xlAt VW fmT s && recOk (RowW.records (OpenRow.toRowW (OpenLaw.row PySem.Challenge.rw_oc0253_01))) s
theorem look1 (w : World) (os : OsState) : (staticsOk (importedModules pg.main.body) (boot_heap w.params) (HZ w.params) && namesBound pg (HZ w.params) && gensDone ⟨HZ w.params, #[], {}, 541, os⟩ && laidKept (boot_heap w.params) (HZ w.params)) = true := by kernel_rfl
noncomputable abbrev SZ (w : World) (os : OsState) : Shared := ⟨HZ w.params, #[], {}, 541, os⟩
theorem pairE {α β : Type} {a a' : α} {b b' : β} (h : a = a') (k : b = b') : (a, b) = (a', b') := by rw [h, k]
theorem lkA (w : World) (os : OsState) : seen ((recsOf VW).map (·.name)) (ownsOf VW) [] { SZ w os with gens := #[] } = expectedOf VW := by first | (rw [PySem.W.Fast.te5160383126252970620, PySem.W.Fast.te3399658132070893891, PySem.W.Fast.te5991557255702980513]; kernel_rfl) | kernel_rfl
theorem lkB (w : World) (os : OsState) : (SZ w os).heap.bltView = bltViewBooted := by kernel_rfl
theorem lkC1 (w : World) (os : OsState) : (SZ w os).heap.keysOk (looseW VW LS) ((recsOf VW).map (·.name)) ((litsOf VW).map (·.1)) ((clssOf VW (looseW VW LS)).map (·.name)) = true := by first | (rw [PySem.W.Fast.te10880121769531294198, PySem.W.Fast.te821141287760084731, PySem.W.Fast.te3399658132070893891, PySem.W.Fast.te7409074990110511671, PySem.W.Fast.te13664370479719496447]; kernel_rfl) | kernel_rfl
theorem lkC2 (w : World) (os : OsState) : (SZ w os).heap.accountedOkI (importedModules pg.main.body) = true := by first | (rw [PySem.W.Fast.te14722251495701143533]; kernel_rfl) | kernel_rfl
theorem lkC3 (w : World) (os : OsState) : tablesOk VW (SZ w os).heap = true := by first | (rw [PySem.W.Fast.te10994771534591457954]; kernel_rfl) | kernel_rfl
theorem lkC4 (w : World) (os : OsState) : XT (SZ w os) = true := by kernel_rfl
theorem lkD (w : World) (os : OsState) : tabsOk VW (SZ w os) = true := by first | (rw [PySem.W.Fast.te479339242167458305]; kernel_rfl) | kernel_rfl
theorem lkE (w : World) (os : OsState) : pinSeenD VW (drecsOf VW) (SZ w os) = pinGoodD (drecsOf VW) := by first | (rw [PySem.W.Fast.te16090120013241838585, PySem.W.Fast.te3247288618530077131]; kernel_rfl) | kernel_rfl
theorem lkF (w : World) (os : OsState) : plainSeenE VW (looseW VW LS) (SZ w os) = plainGoodE VW (looseW VW LS) := by first | (rw [PySem.W.Fast.te2386780881361962483, PySem.W.Fast.te821141287760084731]; kernel_rfl) | kernel_rfl
theorem lkG (w : World) (os : OsState) : plainSeenD VW LS (SZ w os) = plainGoodD VW LS := by first | (rw [PySem.W.Fast.te11698064438423848299]; kernel_rfl) | kernel_rfl
theorem lkH (w : World) (os : OsState) : wideSeen VW (SZ w os) = wideGood VW := by first | (rw [PySem.W.Fast.te7317090234206586261]; kernel_rfl) | kernel_rfl
theorem lkI (w : World) (os : OsState) : clsSeenW VW LS (SZ w os) = clsGoodW VW LS := by first | (rw [PySem.W.Fast.te7369524293546568484]; kernel_rfl) | kernel_rfl
theorem look2 (w : World) (os : OsState) : openSeen VW LS (importedModules pg.main.body) XT true ⟨HZ w.params, #[], {}, 541, os⟩ = openGood VW LS :=
  pairE (lkA w os) (pairE (lkB w os) (pairE (look_both (look_both (look_both (look_both (look_both (look_both (lkC1 w os) (lkC2 w os)) (by kernel_rfl)) (by kernel_rfl)) (lkC3 w os)) (lkC4 w os)) (by kernel_rfl)) (pairE (lkD w os) (pairE (lkE w os) (pairE (lkF w os) (pairE (lkG w os) (pairE (lkH w os) (lkI w os))))))))
theorem chOk : (chainsOk VW && opensWell PySem.Challenge.rw_oc0253_01.row.toRowW.prog && (frees PySem.Challenge.rw_oc0253_01.row.toRowW && PySem.Challenge.rw_oc0253_01.row.toRowW.within.isEmpty)) = true := by kernel_rfl
theorem left {α : Type} {Yf : Shared → α} {Ya : World → α} (h : ∀ w os, Yf ⟨HZ w.params, #[], {}, 541, os⟩ = Ya w) : LeftO pg VW LS XT Yf Ya 3910 :=
  LeftO.of_pieces (H₀ := boot_heap) (H₁ := HZ) (boot_open opens rfl fences) sizeH runH rfl fun w => funext fun os => by rw [look1, look2, h]
local macro_rules | `(tactic| o_law) => `(tactic| refine holds_law said fun said => ?_)
theorem hOpen (K : Hook) {d : DefRec} {kwd : List (Str × Expr)} (h : ∀ w os, K.obs ⟨HZ w.params, #[], {}, 541, os⟩ = K.val w)
    (hdef : defOf VW (OpenLaw.row PySem.Challenge.rw_oc0253_01).name = some (d, kwd)) (hp : (OpenLaw.row PySem.Challenge.rw_oc0253_01).prog.theDef (OpenLaw.row PySem.Challenge.rw_oc0253_01).name = some (d.params, d.body, d.scope))
    (hk : kwWritten? d.params.kwonlyargs d.params.kw_defaults = some kwd) (k1 : (OpenLaw.row PySem.Challenge.rw_oc0253_01).wellSaid = true) (hw : (OpenLaw.row PySem.Challenge.rw_oc0253_01).toRowW.promised)
    (call : WalkO VW LS (XL VW fmT) K.says (OpenLaw.row PySem.Challenge.rw_oc0253_01).toRowW d kwd fun f vs => PySem.call f vs) : (OpenLaw.row PySem.Challenge.rw_oc0253_01).Holds :=
  holds_open (q := VW) (loose := LS) (Xt := XT) (XP := XL VW fmT) (Yf := K.obs) (Ya := K.val) (YP := K.says) (N := 3910) (left h) K.of K.keeps (fun s e => xl_of s (Bool.and_eq_true_iff.mp e).1) XL.keeps hdef hp hk
    (fun s e => recFacts_of (Bool.and_eq_true_iff.mp e).2) (by rfl) k1 chOk ⟨rfl, rfl, rfl, rfl, rfl, by decide +kernel⟩ hw call
local macro_rules | `(tactic| o_head $H) => `(tactic| refine hOpen $H (fun w os => by kernel_rfl) (by rfl) (by rfl) (by rfl) (by assumption) ?hw ?hc)
open_top hd for PySem.Challenge.rw_oc0253_01
end
end Mine
end
section
open PySem PySem.W PyProof.Rows
local macro_rules | `(tactic| k_all) => `(tactic| assumption)
local macro_rules
  | `(tactic| walk_at "fa") => `(tactic| first | assumption | exact And.left ‹_› | exact And.left (And.right ‹_›) | exact And.left (And.right (And.right ‹_›)) | exact And.right ‹_› | exact And.left (And.right (And.right (And.right ‹_›))) | exact And.right (And.right ‹_›) | exact And.left (And.right (And.right (And.right (And.right ‹_›)))) | exact And.right (And.right (And.right ‹_›)) | exact And.left (And.right (And.right (And.right (And.right (And.right ‹_›))))) | exact And.left (And.right (And.right (And.right (And.right (And.right (And.right ‹_›)))))))
  | `(tactic| k_ne) => `(tactic| (refine neN ?_; (try dsimp only); first | exact Nat.ne_of_lt (by walk_at "fa") | exact Nat.ne_of_gt (by walk_at "fa") | walk_at "fa" | exact Ne.symm (by walk_at "fa") | omega))
section
open PySem PySem.W PyProof.Rows PySem.Calls PySem.Spec
set_option Elab.async false
set_option maxRecDepth 100000
set_option maxHeartbeats 4000000
namespace Mine
noncomputable abbrev V39 : Program := Mine.VW
noncomputable abbrev LO : List Str := looseW VW LS
theorem fillK : (PySem.Challenge.rw_oc0253_01, Mine.hd.heap_1) = (PySem.Challenge.rw_oc0253_01, Mine.hd.heap_1) := by k_fill; rfl

/-- all that was there stays -/
noncomputable def Kp (h h' : Heap) : Prop := ∀ b o, h.get? b = some o → h'.get? b = some o
theorem Kp.refl (h : Heap) : Kp h h := fun _ _ e => e
theorem Kp.trans {a b c : Heap} (x : Kp a b) (y : Kp b c) : Kp a c := fun b o e => y b o (x b o e)
/-- all stays but what is written -/
noncomputable def KpB (W : List Addr) (h h' : Heap) : Prop := ∀ b o, b ∉ W → h.get? b = some o → h'.get? b = some o
theorem KpB.trans {W : List Addr} {a b c : Heap} (x : KpB W a b) (y : KpB W b c) : KpB W a c := fun b o n e => y b o n (x b o n e)
theorem KpB.more {W W' : List Addr} {a b : Heap} (x : KpB W a b) (h : ∀ a ∈ W, a ∈ W') : KpB W' a b := fun b o n e => x b o (fun q => n (h _ q)) e
theorem Kp.b {W : List Addr} {a b : Heap} (x : Kp a b) : KpB W a b := fun b o _ e => x b o e

/-- the ground: the text's own objects, the names; n₀: all that a call makes lies above -/
structure Gd0 (w : World) (n₀ : Nat) (g : Heap) : Prop where
  size : g.objs.size ≤ n₀
  X : (Mine.hd.heap_1 w.params).In g
  T : ∃ mean mg mb, Top V39 LO mean mg mb g
noncomputable def Gd (w : World) (n₀ : Nat) (h : Heap) : Prop := ∃ g, Gd0 w n₀ g ∧ Kp g h
theorem Gd.X {w : World} {n₀ : Nat} {h : Heap} (G : Gd w n₀ h) : (Mine.hd.heap_1 w.params).In h := let ⟨_, g, k⟩ := G; g.X.keeps k
theorem Gd.T {w : World} {n₀ : Nat} {h : Heap} (G : Gd w n₀ h) : ∃ mean mg mb, Top V39 LO mean mg mb h := let ⟨_, g, k⟩ := G; let ⟨a, b, c, T⟩ := g.T; ⟨a, b, c, T.keeps k⟩
theorem Gd.nolimit {w : World} {n₀ : Nat} {h : Heap} (G : Gd w n₀ h) : h.NoLimit := let ⟨_, _, _, T⟩ := G.T; T.nolimit
theorem Gd.keep {w : World} {n₀ : Nat} {h h' : Heap} (G : Gd w n₀ h) (k : Kp h h') : Gd w n₀ h' := let ⟨g, q, k'⟩ := G; ⟨g, q, k'.trans k⟩
theorem Gd.keepB {w : World} {n₀ : Nat} {h h' : Heap} {W : List Addr} (G : Gd w n₀ h) (k : KpB W h h') (hW : ∀ a ∈ W, n₀ ≤ a) : Gd w n₀ h' :=
  let ⟨g, q, k'⟩ := G; ⟨g, q, fun b o e => k b o (fun m => absurd (Heap.lt_size e) (Nat.not_lt.mpr (Nat.le_trans q.size (hW _ m)))) (k' b o e)⟩

/-- room around a call -/
structure Rm (A : Around) (d u : Nat) : Prop where
  hh : A.handled = none
  hd : A.depth + d < recursionLimit
  hu : A.units + u < cLine
theorem Rm.deeper {A : Around} {d u : Nat} {env : Env} (r : Rm A (d + 1) (u + 3)) : Rm (A.deeper env) d u := ⟨r.hh, by have := r.hd; show A.depth + 1 + d < _; exact Mine.q0 this, by have := r.hu; show A.units + 3 + u < _; exact Mine.q1 this⟩
theorem make_units (C : Addr) (pos : List Value) (kw : List (Str × Value)) : (Code.builtin "type.__call__" ⟨.ref C :: pos, kw⟩).cUnits ≤ 10 := Nat.le_of_ble_eq_true rfl
theorem Rm.make {A : Around} {d u : Nat} {C : Addr} {pos : List Value} {kw : List (Str × Value)} (r : Rm A (d + 1) (u + 10)) : Rm (A.under (.builtin "type.__call__" ⟨.ref C :: pos, kw⟩)) d u := by
  refine ⟨r.hh, ?_, ?_⟩
  · have := r.hd
    show A.depth + 1 + d < _
    exact Mine.q0 this
  · have := r.hu
    have := make_units C pos kw
    show A.units + (Code.builtin "type.__call__" ⟨.ref C :: pos, kw⟩).cUnits + u < _
    exact Mine.q2 ‹_› this
theorem Rm.less {A : Around} {d u d' u' : Nat} (r : Rm A d u) (h : d' ≤ d) (k : u' ≤ u) : Rm A d' u' := ⟨r.hh, by have := r.hd; exact Mine.q3 h this, by have := r.hu; exact Mine.q3 k this⟩

section
variable {prog : Program} {w : World} {A : Around} {s : Shared} {K : Frag} {R : Result → Shared → Prop} {name qual : Str} {params : Arguments} {body : List Stmt} {scope : Scope} {dV kV doc pm cdv ct oc : Value} {an od : Option Addr} {osl : Array (Option Value)} {f : Addr} {args : Args} {binds : List (Str × Value)}
/-- a def is entered -/
theorem enter (X : K.In s.heap) (hlim : s.heap.NoLimit)
    (ho : K.lookup f = some ⟨oc, od, .func (fnOf name qual params body scope dV kV doc pm an cdv ct), osl⟩) (hcd : codeIn K cdv qual = true) (hroom : A.depth < recursionLimit)
    (hbind : BindsTo s (fnOf name qual params body scope dV kV doc pm an cdv ct) args binds) (hloc : ∀ y ∈ binds, scope.names.lookup y.1 = some .local)
    (h : ∀ h₁, h₁.Ns s.heap.objs.size (fun y => binds.reverse.lookup y) → Kp s.heap h₁ →
      wpAny (model prog w) (A.deeper (envOf qual scope s.heap.objs.size f cdv)) (execs body (envOf qual scope s.heap.objs.size f cdv))
        (fun fl s' => R (.ok (.ret (match fl with | .ret v => v | _ => .none))) s')
        (fun e s' => wpAny (model prog w) (A.deeper (envOf qual scope s.heap.objs.size f cdv)) (leaving (envOf qual scope s.heap.objs.size f cdv) e) (fun _ s'' => R (.error e) s'') (fun e' s'' => R (.error e') s'') s')
        { s with heap := h₁, toks := s.toks + binds.length })
    (hco : scope.isCoroutine = false) (hgen : scope.isGenerator = false) (hk : scope.kind = .function)
    (hcell : ∀ x ∈ scope.names, x.2 ≠ .cell) : codeAny (model prog w) A (.call (.ref f) args) R s :=
  codeAny_call_def (fd := fnOf name qual params body scope dV kV doc pm an cdv ct) (body := body) (binds := binds) hroom (X _ _ ho) rfl hlim (codeRec_of X hcd) rfl hbind hcell hloc
    (fun h₁ hns hk₁ => h h₁ hns hk₁) hco hgen hk
end

/-- the heap below L, without what is hidden -/
noncomputable def cutAt (h : Heap) (L : Addr) : Heap := { h with objs := h.objs.extract 0 L }
theorem cutAt_get {h : Heap} {L b : Nat} {o : Obj} (e : h.get? b = some o) (hb : b < L) : (cutAt h L).get? b = some o := by
  obtain ⟨e1, e2⟩ := Heap.get?_some_iff.mp e
  refine Heap.get?_some_iff.mpr ⟨?_, e2⟩
  show (h.objs.extract 0 L)[b]? = some o
  rw [Array.getElem?_extract]
  have := (Array.getElem?_eq_some_iff.mp e1).1
  have q : b < min L h.objs.size - 0 := by have h1 : b < L := hb; have h2 : b < h.objs.size := this; exact Mine.q4 hb this
  rw [if_pos q, Nat.zero_add]
  exact e1
theorem of_cutAt {h : Heap} {L b : Nat} {o : Obj} (e : (cutAt h L).get? b = some o) : h.get? b = some o ∧ b < L := by
  obtain ⟨e1, e2⟩ := Heap.get?_some_iff.mp e
  have e1' : (h.objs.extract 0 L)[b]? = some o := e1
  rw [Array.getElem?_extract] at e1'
  split at e1'
  · rename_i q
    rw [Nat.zero_add] at e1'
    exact ⟨Heap.get?_some_iff.mpr ⟨e1', e2⟩, by have q' : b < min L h.objs.size - 0 := q; exact Mine.q5 q⟩
  · cases e1'
theorem cutAt_size (h : Heap) (L : Addr) : (cutAt h L).objs.size ≤ L := by
  show (h.objs.extract 0 L).size ≤ L
  rw [Array.size_extract]; exact Mine.q6
/-- all objects at or above L that are not among W -/
noncomputable def above (h : Heap) (L : Addr) (W : List Addr) : List (Addr × Obj) :=
  (List.range h.objs.size).filterMap fun a => if L < a ∧ a ∉ W then (h.get? a).map fun o => (a, o) else none
theorem mem_above {h : Heap} {L : Addr} {W : List Addr} {p : Addr × Obj} : p ∈ above h L W ↔ h.get? p.1 = some p.2 ∧ L < p.1 ∧ p.1 ∉ W := by
  obtain ⟨a, o⟩ := p
  unfold above
  rw [List.mem_filterMap]
  constructor
  · rintro ⟨b, _, hb⟩
    split at hb
    · rename_i q
      obtain ⟨o', h1, h2⟩ := Option.map_eq_some_iff.mp hb
      cases h2
      exact ⟨h1, q⟩
    · cases hb
  · rintro ⟨h1, h2⟩
    refine ⟨a, List.mem_range.mpr (Heap.lt_size h1), ?_⟩
    rw [if_pos h2, h1]; rfl

/-- at any place of a frame: a ground and a ledger for the walk; what the walk keeps is all but L and W -/
structure Base (w : World) (h : Heap) (L : Addr) (W : List (Addr × Obj)) (m : Str → Option Value) (h₀ : Heap) (tail : List (Addr × Obj)) : Prop where
  fr : Fr h₀ L h m
  nw : News h₀ L h (W ++ tail)
  off : ∀ p ∈ tail, p.1 ∉ W.map (·.1)
  lt : ∀ p ∈ tail, p.1 < h.objs.size
  X : (Mine.hd.heap_1 w.params).In h₀
  T : ∃ mean mg mb, Top V39 LO mean mg mb h₀
  hid : ∀ a o, h.get? a = some o → a < L → a ∉ W.map (·.1) → h₀.get? a = some o
  bk : ∀ h' m' news', Fr h₀ L h' m' → News h₀ L h' news' → (∀ p ∈ tail, p ∈ news') → KpB (L :: W.map (·.1)) h h'
theorem rebase {w : World} {n₀ : Nat} {h : Heap} {L : Addr} {m : Str → Option Value} (W : List (Addr × Obj)) (G : Gd w n₀ h) (hn : h.Ns L m) (hL : n₀ ≤ L) (hW : ∀ p ∈ W, h.get? p.1 = some p.2 ∧ p.1 ≠ L ∧ n₀ ≤ p.1) :
    ∃ h₀ tail, Base w h L W m h₀ tail := by
  refine ⟨hideAll (cutAt h L) (W.map (·.1)), above h L (W.map (·.1)), ⟨hn, fun b o e => (of_cutAt (of_hideAll _ e)).1, ?_⟩, fun p hp => ?_, fun p hp => (mem_above.mp hp).2.2, fun p hp => Heap.lt_size (mem_above.mp hp).1, ?_, ?_, fun a o e hl hw => hideAll_get _ (cutAt_get e hl) hw, fun h' m' news' F N ht b o hb e => ?_⟩
  · rw [hideAll_size]; exact cutAt_size _ _
  · rcases List.mem_append.mp hp with q | q
    · exact ⟨(hW p q).1, (hW p q).2.1, hideAll_none _ (List.mem_map_of_mem q)⟩
    · obtain ⟨h1, h2, _⟩ := mem_above.mp q
      refine ⟨h1, Nat.ne_of_gt h2, ?_⟩
      cases e : (hideAll (cutAt h L) (W.map (·.1))).get? p.1 with
      | none => rfl
      | some o => exact absurd (of_cutAt (of_hideAll _ e)).2 (Nat.not_lt.mpr (Nat.le_of_lt h2))
  · obtain ⟨g, q, k⟩ := G
    refine q.X.keeps fun b o e => hideAll_get _ (cutAt_get (k b o e) ?_) fun hm => ?_
    · exact Nat.lt_of_lt_of_le (Heap.lt_size e) (Nat.le_trans q.size hL)
    · obtain ⟨p, hp, rfl⟩ := List.mem_map.mp hm
      exact absurd (Heap.lt_size e) (Nat.not_lt.mpr (Nat.le_trans q.size (hW p hp).2.2))
  · obtain ⟨g, q, k⟩ := G
    obtain ⟨a, b, c, T⟩ := q.T
    refine ⟨a, b, c, T.keeps fun b o e => hideAll_get _ (cutAt_get (k b o e) ?_) fun hm => ?_⟩
    · exact Nat.lt_of_lt_of_le (Heap.lt_size e) (Nat.le_trans q.size hL)
    · obtain ⟨p, hp, rfl⟩ := List.mem_map.mp hm
      exact absurd (Heap.lt_size e) (Nat.not_lt.mpr (Nat.le_trans q.size (hW p hp).2.2))
  · rw [List.mem_cons, not_or] at hb
    by_cases hlt : b < L
    · exact F.keep b o (hideAll_get _ (cutAt_get e hlt) hb.2)
    · have hgt : L < b := Nat.lt_of_le_of_ne (Nat.le_of_not_lt hlt) (Ne.symm hb.1)
      exact (N (b, o) (ht _ (mem_above.mpr ⟨e, hgt, hb.2⟩))).1
section
variable {P : Prop} {w : World} {n₀ : Nat} {hs h : Heap} {L : Addr} {m : Str → Option Value} (W : List (Addr × Obj))
theorem rebaseK (G : Gd w n₀ h) (hn : h.Ns L m) (hL : n₀ ≤ L) (hW : ∀ p ∈ W, h.get? p.1 = some p.2 ∧ p.1 ≠ L ∧ n₀ ≤ p.1)
    (k : ∀ h₀ tail, Fr h₀ L h m → News h₀ L h (W ++ tail) → (∀ p ∈ tail, p.1 ∉ W.map (·.1)) → (∀ p ∈ tail, p.1 < h.objs.size) → (Mine.hd.heap_1 w.params).In h₀ → ∀ mean mg mb, Top V39 LO mean mg mb h₀ →
      (∀ a o, h.get? a = some o → a < L → a ∉ W.map (·.1) → h₀.get? a = some o) → (∀ h' m' news', Fr h₀ L h' m' → News h₀ L h' news' → (∀ p ∈ tail, p ∈ news') → KpB (L :: W.map (·.1)) h h') → P) : P :=
  let ⟨_, _, B⟩ := rebase W G hn hL hW
  let ⟨_, _, _, T⟩ := B.T
  k _ _ B.fr B.nw B.off B.lt B.X _ _ _ T B.hid B.bk
end
theorem fresh_of {h h₁ h₀ : Heap} {W : List (Addr × Obj)} {l : Addr} (kp : Kp h h₁) (hid : ∀ a o, h₁.get? a = some o → a < h.objs.size → a ∉ W.map (·.1) → h₀.get? a = some o) (hl : h₀.get? l = none) (hw : l ∉ W.map (·.1)) : h.get? l = none := by
  cases e : h.get? l with
  | none => rfl
  | some o => rw [hid l o (kp l o e) (Heap.lt_size e) hw] at hl; cases hl
theorem led_after {h h' h₀ : Heap} {L : Addr} {m : Str → Option Value} {news news' : List (Addr × Obj)} (F : Fr h₀ L h m) (N : News h₀ L h news) (W : List Addr) (k : KpB W h h') (hW : ∀ a ∈ W, ∃ o, (a, o) ∈ news)
    (hn : ∀ p ∈ news', (p ∈ news ∧ p.1 ∉ W) ∨ (h'.get? p.1 = some p.2 ∧ ((∃ o, (p.1, o) ∈ news) ∨ h.get? p.1 = none))) : Fr h₀ L h' m ∧ News h₀ L h' news' := by
  obtain ⟨oL, es, ep, hL, r⟩ := F.ns
  refine ⟨⟨⟨oL, es, ep, k L oL (fun q => ?_) hL, r⟩, fun b o e => k b o (fun q => ?_) (F.keep b o e), F.above⟩, fun p hp => ?_⟩
  · obtain ⟨o, ho⟩ := hW L q; exact (N _ ho).2.1 rfl
  · obtain ⟨o', ho⟩ := hW b q; have := (N _ ho).2.2; rw [e] at this; cases this
  · rcases hn p hp with ⟨q, hw⟩ | ⟨q, ⟨o, ho⟩ | hz⟩
    · exact ⟨k _ _ hw (N p q).1, (N p q).2⟩
    · exact ⟨q, (N _ ho).2⟩
    · refine ⟨q, fun e => ?_, ?_⟩
      · rw [e, hL] at hz; cases hz
      · cases e : h₀.get? p.1 with
        | none => rfl
        | some o => rw [F.keep _ _ e] at hz; cases hz
theorem nin1 {l a : Nat} (h : l ≠ a) : l ∉ [a] := by simp [h]
theorem nin2 {l a b : Nat} (h : l ≠ a) (h' : l ≠ b) : l ∉ [a, b] := by simp [h, h']
theorem nin3 {l a b c : Nat} (h : l ≠ a) (h' : l ≠ b) (h'' : l ≠ c) : l ∉ [a, b, c] := by simp [h, h', h'']
theorem nin4 {l a b c d : Nat} (h : l ≠ a) (h' : l ≠ b) (h'' : l ≠ c) (h3 : l ≠ d) : l ∉ [a, b, c, d] := by simp [h, h', h'', h3]
theorem nin5 {l a b c d e : Nat} (h : l ≠ a) (h' : l ≠ b) (h'' : l ≠ c) (h3 : l ≠ d) (h4 : l ≠ e) : l ∉ [a, b, c, d, e] := by simp [h, h', h'', h3, h4]
theorem kpB_fin {h h₁ h' : Heap} {Ws : List Addr} (kp : Kp h h₁) (kb : KpB (h.objs.size :: Ws) h₁ h') (W' : List Addr) (same : ∀ a ∈ Ws, a ∉ W' → ∀ o, h.get? a = some o → h'.get? a = some o) : KpB W' h h' := fun b o hb e => by
  by_cases hw : b ∈ Ws
  · exact same b hw hb o e
  · refine kb b o (fun q => ?_) (kp b o e)
    rcases List.mem_cons.mp q with rfl | q
    · exact absurd (Heap.lt_size e) (Nat.lt_irrefl _)
    · exact hw q
/-- objects that are known, one by one -/
noncomputable def AllAt (h : Heap) (n₀ : Nat) : List (Addr × Obj) → Prop
  | [] => True
  | p :: r => (h.get? p.1 = some p.2 ∧ n₀ ≤ p.1) ∧ AllAt h n₀ r
theorem AllAt.mem {h : Heap} {n₀ : Nat} {W : List (Addr × Obj)} (H : AllAt h n₀ W) : ∀ p ∈ W, h.get? p.1 = some p.2 ∧ n₀ ≤ p.1 := by
  induction W with
  | nil => exact fun p hp => absurd hp List.not_mem_nil
  | cons q r ih =>
    intro p hp
    rcases List.mem_cons.mp hp with e | hp
    · rw [e]; exact H.1
    · exact ih H.2 p hp
/-- what the walk of a body stands on; L: its frame; h: the heap at the call -/
structure Std (w : World) (n₀ : Nat) (h : Heap) (W : List (Addr × Obj)) (h₀ : Heap) (L : Addr) (tail : List (Addr × Obj)) : Prop where
  off : ∀ x ∈ W.map (·.1), ∀ p ∈ tail, p.1 ≠ x
  fin : ∀ h' m' news', Fr h₀ L h' m' → News h₀ L h' news' → (∀ p ∈ tail, p ∈ news') → KpB (W.map (·.1)) h h'
  fresh : ∀ l, h₀.get? l = none → l ∉ W.map (·.1) → h.get? l = none
  gd : ∀ h' m' news', Fr h₀ L h' m' → News h₀ L h' news' → Gd w n₀ h' ∧ n₀ ≤ h'.objs.size
  lf : h.get? L = none
  ln : n₀ ≤ L
  ls : h.objs.size ≤ L
theorem KpB.less {W W' : List Addr} {h h' : Heap} (k : KpB W h h') (hs : ∀ a ∈ W, a ∈ W' ∨ ∃ o, h.get? a = some o ∧ h'.get? a = some o) : KpB W' h h' := fun b o hb e => by
  by_cases hw : b ∈ W
  · rcases hs b hw with q | ⟨o', e1, e2⟩
    · exact absurd q hb
    · rw [e1] at e; cases e; exact e2
  · exact k b o hw e
theorem KpB.kp {h h' : Heap} (k : KpB [] h h') : Kp h h' := fun b o e => k b o List.not_mem_nil e
section
variable {prog : Program} {w : World} {n₀ : Nat} {A : Around} {s : Shared} {R : Result → Shared → Prop} {name qual : Str} {params : Arguments} {body : List Stmt} {scope : Scope} {dV kV doc pm cdv ct oc : Value} {an od : Option Addr} {osl : Array (Option Value)} {f : Addr} {args : Args}
theorem start {K : Frag} (W : List (Addr × Obj)) (binds : List (Str × Value)) (KX : ∀ h, (Mine.hd.heap_1 w.params).In h → K.In h) (G : Gd w n₀ s.heap) (hs : n₀ ≤ s.heap.objs.size) (hW : AllAt s.heap n₀ W)
    (ho : K.lookup f = some ⟨oc, od, .func (fnOf name qual params body scope dV kV doc pm an cdv ct), osl⟩) (hcd : codeIn K cdv qual = true) (hroom : A.depth < recursionLimit)
    (hbind : BindsTo s (fnOf name qual params body scope dV kV doc pm an cdv ct) args binds) (hloc : ∀ y ∈ binds, scope.names.lookup y.1 = some .local)
    (h : ∀ h₁ h₀ L tail mean mg mb, Std w n₀ s.heap W h₀ L tail → Fr h₀ L h₁ (fun y => binds.reverse.lookup y) → News h₀ L h₁ (W ++ tail) → K.In h₀ → Top V39 LO mean mg mb h₀ →
      wpAny (model prog w) (A.deeper (envOf qual scope L f cdv)) (execs body (envOf qual scope L f cdv))
        (fun fl s' => R (.ok (.ret (match fl with | .ret v => v | _ => .none))) s')
        (fun e s' => wpAny (model prog w) (A.deeper (envOf qual scope L f cdv)) (leaving (envOf qual scope L f cdv) e) (fun _ s'' => R (.error e) s'') (fun e' s'' => R (.error e') s'') s')
        { s with heap := h₁, toks := s.toks + binds.length })
    (hco : scope.isCoroutine = false) (hgen : scope.isGenerator = false) (hk : scope.kind = .function)
    (hcell : ∀ x ∈ scope.names, x.2 ≠ .cell) : codeAny (model prog w) A (.call (.ref f) args) R s := by
  refine enter (KX _ G.X) G.nolimit ho hcd hroom hbind hloc (fun h₁ hns kp => ?_) hco hgen hk hcell
  obtain ⟨h₀, tail, B⟩ := rebase W (G.keep kp) hns hs fun p hp => ⟨kp _ _ (hW.mem p hp).1, Nat.ne_of_lt (Heap.lt_size (hW.mem p hp).1), (hW.mem p hp).2⟩
  obtain ⟨mean, mg, mb, T⟩ := B.T
  have fin : ∀ h' m' news', Fr h₀ s.heap.objs.size h' m' → News h₀ s.heap.objs.size h' news' → (∀ p ∈ tail, p ∈ news') → KpB (W.map (·.1)) s.heap h' :=
    fun h' m' news' F N ht => kpB_fin kp (B.bk h' m' news' F N ht) _ fun a ha hn => absurd ha hn
  refine h h₁ h₀ _ tail mean mg mb ⟨fun x hx p hp e => B.off p hp (e ▸ hx), fin, fun l hl hw => fresh_of kp B.hid hl hw, fun h' m' news' F N => ⟨?_, Nat.le_trans hs (Nat.le_of_lt F.ns.lt)⟩, Heap.get?_none_of_le (Nat.le_refl _), hs, Nat.le_refl _⟩ B.fr B.nw (KX _ B.X) T
  obtain ⟨g, q, k⟩ := G
  refine ⟨g, q, fun b o e => F.keep b o (B.hid b o (kp b o (k b o e)) (Nat.lt_of_lt_of_le (Heap.lt_size e) (Nat.le_trans q.size hs)) fun hm => ?_)⟩
  obtain ⟨p, hp, rfl⟩ := List.mem_map.mp hm
  exact absurd (Heap.lt_size e) (Nat.not_lt.mpr (Nat.le_trans q.size (hW.mem p hp).2))
end
end Mine
end
section
open PySem PySem.W PyProof.Rows PySem.Calls PySem.Spec
set_option Elab.async false
set_option maxRecDepth 100000
set_option maxHeartbeats 4000000
namespace Mine
section
variable {prog : Program} {w : World} {A : Around} {E : Value → Shared → Prop} {s : Shared} {h₀ : Heap} {L d : Addr} {m : Str → Option Value} {news : List (Addr × Obj)} {g : Obj → List (Addr × Obj)} {o : Obj} {kvs : List (Int × Value)} {k : Int} {t : Tok} {v : Value}
theorem ik (k : Int) (t : Tok) : (intKind prog w).is k (.int k t) = true := intKind_is _ _ _ _
theorem kd_of (N : News h₀ L s.heap news) (hm : (d, o) ∈ news) (ho : o.IsDictOf (intKind prog w) kvs) : s.heap.DictOf (intKind prog w) d kvs := Heap.dictOf_iff.mpr ⟨o, (N _ hm).1, ho⟩
theorem kd_method {name : Str} {id : String} {pl : Sem Bool} {Q : Value × List Value → Shared → Prop} (N : News h₀ L s.heap news) (hm : (d, o) ∈ news) (ho : o.IsDictOf (intKind prog w) kvs)
    (slot : Slot "dict" name id) (ht : typeOf (.builtin id) = pure (.type "method_descriptor")) (h : Q (.builtin id, [.ref d]) s) : wpAny (model prog w) A (getMethod (.ref d) name pl) Q E s :=
  getMethod_builtin (kd_of N hm ho).typeIs PySem.F.plainAttrs_dict slot ht (kd_of N hm ho).mapOf.noDict h
theorem kd_get {Q : Value → Shared → Prop} (N : News h₀ L s.heap news) (hm : (d, o) ∈ news) (ho : o.IsDictOf (intKind prog w) kvs) (hd : (d == sysModules) = false)
    (h : Q ((valueAt kvs k).getD .none) { s with toks := s.toks + 1 }) : wpAny (model prog w) A (call (.builtin "dict.get") [.ref d, .int k t]) Q E s :=
  call_meetsIn PySem.F.slot_dict_get (kd_of N hm ho).typeIs PySem.F.entry_dict_get (PySem.F.args_dict_get_2 _ _) (meets_dict_get (intKind prog w) d (ik k t) hd) ⟨_, (kd_of N hm ho).mapOf, h⟩
theorem kd_item {Q : Value → Shared → Prop} (N : News h₀ L s.heap news) (hm : (d, o) ∈ news) (ho : o.IsDictOf (intKind prog w) kvs) (hv : valueAt kvs k = some v)
    (h : Q v { s with toks := s.toks + 1 }) : wpAny (model prog w) A (getItem (.ref d) (.int k t)) Q E s :=
  wpAny_getItem_of (ik k t) (kd_of N hm ho).mapOf hv h
theorem kd_tail {value slice : PySem.Expr} {Q : Value → Shared → Prop} (N : News h₀ L s.heap news) (hm : (d, o) ∈ news) (ho : o.IsDictOf (intKind prog w) kvs) (hv : valueAt kvs k = some v)
    (h : Q v { s with toks := s.toks + 1 }) (hs : subscripted slice false (.ref d) (.int k t) = operate [.ref d, .int k t] (getItem (.ref d) (.int k t)) := by with_unfolding_all rfl) :
    wpAny (model prog w) A (subscriptTail value slice (.ref d) (.int k t)) Q E s :=
  tail_any (kd_of N hm ho).typeIs slot_dict_getitem.lookup (kd_item N hm ho hv h) hs
theorem kd_in {Q : Value → Shared → Prop} (N : News h₀ L s.heap news) (hm : (d, o) ∈ news) (ho : o.IsDictOf (intKind prog w) kvs) (hd : (d == sysModules) = false)
    (h : Q (.bool (valueAt kvs k).isSome) { s with toks := s.toks + 1 }) : wpAny (model prog w) A (compareOp .In (.int k t) (.ref d)) Q E s :=
  wpAny_in_of (ik k t) hd (kd_of N hm ho).mapOf h
theorem kd_set {Q : Unit → Shared → Prop} (F : Fr h₀ L s.heap m) (N : News h₀ L s.heap news) (U : UpdF d o news g) (ho : o.IsDictOf (intKind prog w) kvs) (hsz : kvs.length ≤ sizeLine)
    (h : ∀ h' o', Fr h₀ L h' m → News h₀ L h' (g o') → o'.IsDictOf (intKind prog w) (stored kvs k v) → Q () { s with heap := h', toks := s.toks + 1 }) : wpAny (model prog w) A (setItem (.ref d) (.int k t) v) Q E s := by
  obtain ⟨own, rest, rfl, hg, h1, h2⟩ := U.split
  have hm := N (d, o) (List.mem_append_right _ (.head _))
  refine wpAny_setItem_pairs (ik k t) (Heap.dictOf_iff.mpr ⟨o, hm.1, ho⟩) (fun h' hm' hs => ?_) hsz
  obtain ⟨o', ho', hd'⟩ := Heap.dictOf_iff.mp hm'
  exact h h' o' (F.change hs hm.2.1 hm.2.2) (hg o' ▸ N.setIn h1 h2 hs ho') hd'
theorem kd_del {Q : Unit → Shared → Prop} (F : Fr h₀ L s.heap m) (N : News h₀ L s.heap news) (U : UpdF d o news g) (ho : o.IsDictOf (intKind prog w) kvs) (hsz : kvs.length ≤ sizeLine) (hv : (valueAt kvs k).isSome = true)
    (h : ∀ h' o', Fr h₀ L h' m → News h₀ L h' (g o') → o'.IsDictOf (intKind prog w) (without kvs k) → Q () { s with heap := h', toks := s.toks + 1 }) : wpAny (model prog w) A (delItem (.ref d) (.int k t)) Q E s := by
  obtain ⟨own, rest, rfl, hg, h1, h2⟩ := U.split
  have hm := N (d, o) (List.mem_append_right _ (.head _))
  have hD : s.heap.DictOf (intKind prog w) d kvs := Heap.dictOf_iff.mpr ⟨o, hm.1, ho⟩
  unfold delItem
  try with_reducible refine wpAny_holding ?_
  refine wpAny_bind (wpAny_sequenceKey hD.typeIs (by decide) ?_)
  refine wpAny_bind (wpAny_callSpecial?_slot (name := Str.ofString "__delitem__") hD.typeIs PySem.F.slot_dict_delitem
    (call_meetsIn PySem.F.slot_dict_delitem hD.typeIs PySem.F.entry_dict_delitem (PySem.F.args_dict_delitem_2 _ _) (meets_dict_delitem_pairs (intKind prog w) d (ik k t)) ⟨kvs, hD, hsz, hv, fun h' hmm hs => ?_⟩))
  obtain ⟨o', ho', hd'⟩ := Heap.dictOf_iff.mp hmm
  exact wpAny_pure (h h' o' (F.change hs hm.2.1 hm.2.2) (hg o' ▸ N.setIn h1 h2 hs ho') hd')
end
end Mine
end
section
open PySem PySem.W PyProof.Rows PySem.Calls PySem.Spec
set_option Elab.async false
set_option maxRecDepth 100000
set_option maxHeartbeats 4000000
namespace Mine
section
variable {prog : Program} {w : World} {A : Around} {E : Value → Shared → Prop} {s : Shared} {h₀ : Heap} {L d : Addr} {m : Str → Option Value} {news : List (Addr × Obj)} {g : Obj → List (Addr × Obj)} {rs : Array Value} {rn : Nat} {pos : Pos}
theorem kl_method {name : Str} {id : String} {pl : Sem Bool} {Q : Value × List Value → Shared → Prop} (N : News h₀ L s.heap news) (hm : (d, W.listOf rs rn) ∈ news)
    (slot : Slot "list" name id) (ht : typeOf (.builtin id) = pure (.type "method_descriptor")) (h : Q (.builtin id, [.ref d]) s) : wpAny (model prog w) A (getMethod (.ref d) name pl) Q E s :=
  getMethod_list_of slot ht (IsL.isList (N.get hm)) ⟨_, N.get hm, rfl⟩ h
theorem kl_clear {Q : Value → Shared → Prop} (F : Fr h₀ L s.heap m) (N : News h₀ L s.heap news) (U : UpdF d (W.listOf rs rn) news g) (hsz : rs.size ≤ sizeLine)
    (h : ∀ h' n', Fr h₀ L h' m → News h₀ L h' (g (W.listOf #[] n')) → Q .none { s with heap := h' }) : wpAny (model prog w) A (call (.builtin "list.clear") [.ref d]) Q E s := by
  obtain ⟨own, rest, rfl, hg, h1, h2⟩ := U.split
  have hm := N (d, W.listOf rs rn) (List.mem_append_right _ (.head _))
  obtain ⟨n', hu⟩ : ∃ n', (s.heap.update d (Obj.mapSeq fun _ => #[])).get? d = some (W.listOf #[] n') := ⟨_, Heap.get?_update_self (Obj.mapSeq fun _ => #[]) hm.1 rfl⟩
  have hs : Heap.SameBut d s.heap (s.heap.update d (Obj.mapSeq fun _ => #[])) := Heap.SameBut.update ..
  exact call_meets PySem.F.slot_list_clear ⟨_, hm.1, rfl⟩ PySem.F.entry_list_clear (PySem.F.args_list_clear_1 _) (PySem.AutoSeq1.list_clear_list_0 d rs rn hsz) ⟨hm.1, h _ n' (F.change hs hm.2.1 hm.2.2) (hg _ ▸ N.setIn h1 h2 hs hu)⟩
end
end Mine
end
section
open PySem PySem.W PyProof.Rows PySem.Calls PySem.Spec
set_option Elab.async false
set_option maxRecDepth 100000
set_option maxHeartbeats 4000000
namespace Mine
theorem fillK2 : (PySem.Challenge.rw_oc0253_01, Mine.hd.heap_1) = (PySem.Challenge.rw_oc0253_01, Mine.hd.heap_1) := by k_fill; rfl
noncomputable abbrev srtD (w : World) (k0 k1 k2 k3 : Tok) (n2i rdy npo nfi : Value) : List DictEntry :=
  [⟨PyData.keyHash w.params (Str.ofString "_node2info"), .str (Str.ofString "_node2info") k0, n2i⟩, ⟨PyData.keyHash w.params (Str.ofString "_ready_nodes"), .str (Str.ofString "_ready_nodes") k1, rdy⟩,
   ⟨PyData.keyHash w.params (Str.ofString "_npassedout"), .str (Str.ofString "_npassedout") k2, npo⟩, ⟨PyData.keyHash w.params (Str.ofString "_nfinished"), .str (Str.ofString "_nfinished") k3, nfi⟩]
noncomputable abbrev niObj (dx : Addr) (k : Int) (t : Tok) (np : Int) (u : Tok) (l : Addr) : Obj := ⟨.ref 67, some dx, .plain, #[some (.int k t), some (.int np u), some (.ref l)]⟩
/-- where a sorter's parts lie -/
structure SL where
  dS : Addr
  n2 : Addr
  ia : Int → Addr
  la : Int → Addr
  dx : Int → Addr
noncomputable abbrev SL.tab (ℓ : SL) (ord : List Int) : List (Int × Value) := ord.map fun k => (k, .ref (ℓ.ia k))
theorem valueAt_map {f : Int → Value} : ∀ {ord : List Int} {k : Int}, valueAt (ord.map fun k => (k, f k)) k = if k ∈ ord then some (f k) else none
  | [], k => by simp [valueAt]
  | j :: r, k => by
    have ih := @valueAt_map f r k
    unfold valueAt at ih ⊢
    rw [List.map_cons, List.find?_cons]
    by_cases h : j = k
    · subst h; simp
    · simp only [h, decide_false]
      rw [ih]
      simp [Ne.symm h, List.mem_cons, eq_comm]
theorem stored_new {kvs : List (Int × Value)} {k : Int} {v : Value} (h : k ∉ kvs.map (·.1)) : stored kvs k v = kvs ++ [(k, v)] := by
  unfold stored
  rw [if_neg]
  intro q
  obtain ⟨p, hp, e⟩ := List.any_eq_true.mp q
  exact h (List.mem_map.mpr ⟨p, hp, by simpa using e⟩)
structure SrtH (prog : Program) (w : World) (n₀ : Nat) (h : Heap) (S : Addr) (ℓ : SL) (ord : List Int) (np : Int → Int) (su : Int → List Int) (rdy : Value) (po fi : Int) : Prop where
  inst : h.get? S = some (instObj 164 ℓ.dS)
  dict : ∃ k0 k1 k2 k3 t1 t2 dn, h.get? ℓ.dS = some (dictOf (srtD w k0 k1 k2 k3 (.ref ℓ.n2) rdy (.int po t1) (.int fi t2)) dn)
  tab : ∃ o, h.get? ℓ.n2 = some o ∧ o.IsDictOf (intKind prog w) (ℓ.tab ord)
  info : ∀ k ∈ ord, ∃ t u, h.get? (ℓ.ia k) = some (niObj (ℓ.dx k) k t (np k) u (ℓ.la k)) ∧ h.get? (ℓ.dx k) = some (dictOf [] 0)
  lst : ∀ k ∈ ord, ∃ vs n, h.get? (ℓ.la k) = some (W.listOf vs n) ∧ IntsAre vs.toList (su k)
  ne : ℓ.dS ≠ ℓ.n2
  ia1 : ∀ k ∈ ord, ∀ j ∈ ord, ℓ.ia k = ℓ.ia j → k = j
  la1 : ∀ k ∈ ord, ∀ j ∈ ord, ℓ.la k = ℓ.la j → k = j
  sm : (ℓ.n2 == sysModules) = false
  lo : n₀ ≤ S ∧ n₀ ≤ ℓ.dS ∧ n₀ ≤ ℓ.n2 ∧ ∀ k ∈ ord, n₀ ≤ ℓ.ia k ∧ n₀ ≤ ℓ.la k ∧ n₀ ≤ ℓ.dx k
theorem SrtH.apart {prog : Program} {w : World} {n₀ : Nat} {h : Heap} {S : Addr} {ℓ : SL} {ord : List Int} {np : Int → Int} {su : Int → List Int} {rdy : Value} {po fi : Int} (H : SrtH prog w n₀ h S ℓ ord np su rdy po fi) {oD : Obj} {kvs : List (Int × Value)}
    (hoD : h.get? ℓ.n2 = some oD) (hD : oD.IsDictOf (intKind prog w) kvs) : S ≠ ℓ.n2 := fun e => by have := H.inst; rw [e, hoD] at this; cases this; obtain ⟨_, _, hx, _⟩ := hD; cases hx.1
theorem all3 {a b c : Addr} {P : Addr → Prop} (ha : P a) (hb : P b) (hc : P c) : ∀ x ∈ [a, b, c], P x := fun x hx => by
  rcases List.mem_cons.mp hx with rfl | hx
  · exact ha
  · rcases List.mem_cons.mp hx with rfl | hx
    · exact hb
    · rw [List.mem_singleton.mp hx]; exact hc
theorem two {a b : Addr} {P : Addr → Prop} (ha : P a) (hb : P b) : ∀ x ∈ [a, b], P x := fun x hx => by
  rcases List.mem_cons.mp hx with rfl | hx
  · exact ha
  · rw [List.mem_singleton.mp hx]; exact hb
theorem cons9 {α : Type} {a : α} {l : List α} {P : α → Prop} (ha : P a) (h : ∀ p ∈ l, P p) : ∀ p ∈ a :: l, P p := fun p hp => by
  rcases List.mem_cons.mp hp with rfl | hp
  · exact ha
  · exact h p hp
theorem fresh9 {h₀ h : Heap} {L l : Addr} {news : List (Addr × Obj)} (N : News h₀ L h news) (hl : h.get? l = none) : ∀ p ∈ news, p.1 ≠ l := fun p hp e => by rw [← e, (N p hp).1] at hl; cases hl
theorem tl {α : Type} {a x : α} {l : List α} (h : a ∈ l) : a ∈ x :: l := .tail _ h
local macro_rules | `(tactic| walk_at "side") => `(tactic| ((case k4 => k_is); (case k5 => k_is); (case k6 => (refine Nat.lt_of_le_of_lt ?_ (Rm.hd (by assumption)); exact Nat.le_add_right _ _)); (case k7 => exact BindsTo.of_eq rfl); (case k8 => exact locs rfl); (case c2 => exact rfl); (case c3 => exact rfl); (case c4 => exact rfl); (case c5 => decide)))
theorem niInit {prog : Program} {w : World} {n₀ : Nat} {A : Around} {s : Shared} {R : Result → Shared → Prop} (G : Gd w n₀ s.heap) (r : Rm A 3 20) (hs : n₀ ≤ s.heap.objs.size) {x dx : Addr} {k : Int} {t : Tok}
    (hx : s.heap.get? x = some (instObj 67 dx)) (hdx : s.heap.get? dx = some (dictOf [] 0)) (b1 : n₀ ≤ x) (b2 : n₀ ≤ dx) (hne : (x : Nat) ≠ dx)
    (ret : ∀ h' tk' u l, KpB [x, dx] s.heap h' → h'.get? dx = some (dictOf [] 0) → h'.get? x = some (niObj dx k t 0 u l) → h'.get? l = some (W.listOf #[] 0) → s.heap.get? l = none → n₀ ≤ l → R (.ok (.ret .none)) { s with heap := h', toks := tk' }) :
    codeAny (model prog w) A (.call (.ref 63) ⟨[.ref x, .int k t], []⟩) R s := by
  w_on
  refine' start (K := Mine.hd.heap_1 w.params) [(x, instObj 67 dx), (dx, dictOf [] 0)] [(Str.ofString "self", .ref x), (Str.ofString "node", .int k t)] (fun _ q => q) G hs ⟨⟨hx, b1⟩, ⟨hdx, b2⟩, trivial⟩ ?k4 ?k5 ?k6 ?k7 ?k8 ?_ ?c2 ?c3 ?c4 ?c5
  walk_at "side"
  intro h₁ h₀ L tail mean mg mb B F N X T
  simp only [List.cons_append, List.nil_append] at N
  have ht1 := B.off x (.head _)
  have hne' := neN hne
  w_strict (
  k_steps
  (rename Fr _ _ _ _ => F9); (rename News _ _ _ _ => N9); (rename _ ∧ _ ∧ AllLt _ _ => l19)
  exact ret _ _ _ _ (B.fin _ _ _ F9 N9 fun p hp => tl (tl (tl hp))) (N9.get (by k_mem)) (N9.get (by k_mem)) (N9.get (by k_mem)) (B.fresh _ (N9.fresh (by k_mem)) (show _ ∉ [x, dx] from nin2 (by exact Mine.q7 l19.1) (by exact Mine.q7 l19.2.1))) (Nat.le_trans b1 (Nat.le_of_lt l19.1)))
theorem getInfo {prog : Program} {w : World} {n₀ : Nat} {A : Around} {s : Shared} {Q E : Value → Shared → Prop} (G : Gd w n₀ s.heap) (r : Rm A 6 50) (hs : n₀ ≤ s.heap.objs.size)
    {S : Addr} {ℓ : SL} {ord : List Int} {np : Int → Int} {su : Int → List Int} {rdy : Value} {po fi : Int} (H : SrtH prog w n₀ s.heap S ℓ ord np su rdy po fi) {k : Int} {t : Tok} (hol : ord.length ≤ sizeLine)
    (ret1 : k ∈ ord → ∀ h' tk', Kp s.heap h' → Q (.ref (ℓ.ia k)) { s with heap := h', toks := tk' })
    (ret2 : k ∉ ord → ∀ h' tk' x l dx u o', KpB [ℓ.n2] s.heap h' → h'.get? ℓ.n2 = some o' → o'.IsDictOf (intKind prog w) (ord.map (fun j => (j, .ref (ℓ.ia j))) ++ [(k, .ref x)]) →
      h'.get? x = some (niObj dx k t 0 u l) → h'.get? dx = some (dictOf [] 0) → h'.get? l = some (W.listOf #[] 0) → s.heap.get? x = none → s.heap.get? dx = none → s.heap.get? l = none → n₀ ≤ x → n₀ ≤ dx → n₀ ≤ l → Q (.ref x) { s with heap := h', toks := tk' }) :
    wpAny (model prog w) A (call (.ref 107) [.ref S, .int k t]) Q E s := by
  w_on
  refine wpAny_call ?_
  obtain ⟨k0, k1, k2, k3, t1, t2, dn, hdS⟩ := H.dict
  obtain ⟨oD, hoD, hD⟩ := H.tab
  refine' start (K := Mine.hd.heap_1 w.params) [(S, instObj 164 ℓ.dS), (ℓ.dS, dictOf (srtD w k0 k1 k2 k3 (.ref ℓ.n2) rdy (.int po t1) (.int fi t2)) dn), (ℓ.n2, oD)] [(Str.ofString "self", .ref S), (Str.ofString "node", .int k t)] (fun _ q => q) G hs ⟨⟨H.inst, H.lo.1⟩, ⟨hdS, H.lo.2.1⟩, ⟨hoD, H.lo.2.2.1⟩, trivial⟩ ?k4 ?k5 ?k6 ?k7 ?k8 ?_ ?c2 ?c3 ?c4 ?c5
  walk_at "side"
  intro h₁ h₀ L tail mean mg mb B F N X T
  simp only [List.cons_append, List.nil_append] at N
  have ht1 := B.off ℓ.n2 (.tail _ (.tail _ (.head _)))
  have hne := neN H.ne
  have hSn := neN (H.apart hoD hD)
  w_strict (
  k_steps
  refine kd_get (by assumption) (by k_mem) hD H.sm ?_
  rw [valueAt_map]
  by_cases hk : k ∈ ord
  · rw [if_pos hk]
    dsimp only [Option.getD]
    k_steps
    (rename Fr _ _ _ _ => F9); (rename News _ _ _ _ => N9)
    exact ret1 hk _ _ ((B.fin _ _ _ F9 N9 fun p hp => tl (tl (tl hp))).less (all3 (.inr ⟨_, H.inst, N9.get (by k_mem)⟩) (.inr ⟨_, hdS, N9.get (by k_mem)⟩) (.inr ⟨_, hoD, N9.get (by k_mem)⟩))).kp
  · rw [if_neg hk]
    dsimp only [Option.getD]
    k_steps
    refine' call_cls ?k1 ?k2 ?k3 ?k4 ?k5 ?k6 ?_
    (case k1 => k_asm)
    (case k2 => k_asm)
    (case k3 => k_asm)
    (case k4 => k_is)
    (case k5 => k_is)
    (case k6 => k_is)
    intro x dx h2 F2 N2 l1 l2
    obtain ⟨G2, hL2⟩ := B.gd _ _ _ F2 N2
    have q3 := ltN (l1 _ (.tail _ (.tail _ (.head _))))
    have q4 := ltN l2
    have q5 : n₀ ≤ ℓ.n2 := H.lo.2.2.1
    have q1 := ltN (l1 _ (.head _))
    have q2 := ltN (l1 _ (.tail _ (.head _)))
    dsimp only at q1 q2 q3
    refine niInit (n₀ := n₀) G2 (Rm.make (Rm.deeper (r.less (by exact Mine.q8) (by exact Mine.q9)))) hL2 (N2.get (.head _)) (N2.get (.tail _ (.head _))) (by exact Mine.q10 q3 q4 q5) (by exact Mine.q11 q3 q5) (Nat.ne_of_gt l2) ?_
    intro h3 tk3 u l kb3 gdx gx gl fl ln
    refine ⟨rfl, ?_⟩
    have fl' := fresh9 N2 fl
    obtain ⟨F3, N3⟩ := led_after (news' := (l, W.listOf #[] 0) :: (x, niObj dx k t 0 u l) :: (dx, dictOf [] 0) :: (S, instObj 164 ℓ.dS) :: (ℓ.dS, dictOf (srtD w k0 k1 k2 k3 (.ref ℓ.n2) rdy (.int po t1) (.int fi t2)) dn) :: (ℓ.n2, oD) :: tail) F2 N2 [x, dx] kb3 (two ⟨_, .head _⟩ ⟨_, .tail _ (.head _)⟩)
      (cons9 (.inr ⟨gl, .inr fl⟩) (cons9 (.inr ⟨gx, .inl ⟨_, .head _⟩⟩) (cons9 (.inr ⟨gdx, .inl ⟨_, .tail _ (.head _)⟩⟩) fun p hp => .inl ⟨tl (tl hp), nin2 (fun e => Nat.lt_irrefl x (Nat.lt_trans (e ▸ l1 p hp) l2)) (fun e => Nat.lt_irrefl dx (e ▸ l1 p hp))⟩)))
    have p8 := neN (fl' _ (tl (tl (.head _))))
    have p9 := neN (fl' _ (tl (tl (tl (.head _)))))
    have p10 := neN (fl' _ (tl (tl (tl (tl (.head _))))))
    dsimp only at p8 p9 p10
    clear N2 F2 fl'
    dsimp only
    k_steps
    refine' kd_set ?F ?N ?U hD ?z ?_
    (case F => k_asm)
    (case N => k_asm)
    (case U => k_updF)
    (case z => rw [List.length_map]; exact hol)
    intro h4 o4 F4 N4 hd4
    (try dsimp only at N4)
    k_steps
    (rename Fr _ _ _ _ => F9); (rename News _ _ _ _ => N9)
    rw [stored_new (by rw [List.map_map]; simpa using hk)] at hd4
    exact ret2 hk _ _ x l dx u _ ((B.fin _ _ _ F9 N9 fun p hp => tl (tl (tl (tl (tl (tl hp)))))).less (all3 (.inr ⟨_, H.inst, N9.get (by k_mem)⟩) (.inr ⟨_, hdS, N9.get (by k_mem)⟩) (.inl (.head _)))) (N9.get (by k_mem)) hd4 (N9.get (by k_mem)) (N9.get (by k_mem)) (N9.get (by k_mem))
      (B.fresh _ (N9.fresh (by k_mem)) (show x ∉ [S, ℓ.dS, ℓ.n2] from nin3 (by exact Mine.q12 q4 q1) (by exact Mine.q12 q4 q2) (by exact Mine.q13 q3 q4)))
      (B.fresh _ (N9.fresh (by k_mem)) (show dx ∉ [S, ℓ.dS, ℓ.n2] from nin3 (by exact Mine.q7 q1) (by exact Mine.q7 q2) (by exact Mine.q7 q3)))
      (B.fresh _ (N9.fresh (by k_mem)) (show l ∉ [S, ℓ.dS, ℓ.n2] from nin3 (Ne.symm p8) (Ne.symm p9) (Ne.symm p10))) (by exact Mine.q10 q3 q4 q5) (by exact Mine.q11 q3 q5) ln)
end Mine
end
section
open PySem PySem.W PyProof.Rows PySem.Calls PySem.Spec
set_option Elab.async false
set_option maxRecDepth 100000
set_option maxHeartbeats 4000000
namespace Mine
theorem meets_bool_list (l : Addr) (items : Array Value) (hfit : (items.size : Int) < 2 ^ 63) :
    Meets (Builtin.«bool.__new__» ⟨[.type "bool", .ref l], []⟩) (fun _ R s => s.heap.IsList l items ∧ R (.ok (.ret (.bool (!items.isEmpty)))) { s with toks := s.toks + 1 + 1 }) :=
  .of_wp fun prog w A R s h => by
    obtain ⟨hp, g, d, tk, os⟩ := s; obtain ⟨hl, h⟩ := h
    have f1 := PySem.F.conv_sub_bool
    have hl' : Heap.IsList (Shared.heap ⟨hp, g, d, tk, os⟩) l items := hl
    wp_walk using wpAny_truthy_list hl' hfit
    exact ⟨_, rfl, h⟩
theorem bool_list {prog : Program} {w : World} {A : Around} {E : Value → Shared → Prop} {s : Shared} {l : Addr} {items : Array Value} {Q : Value → Shared → Prop} (hl : s.heap.IsList l items) (hfit : (items.size : Int) < 2 ^ 63) (h : Q (.bool (!items.isEmpty)) { s with toks := s.toks + 1 + 1 }) :
    wpAny (model prog w) A (call (.type "bool") [.ref l]) Q E s := call_bool_1 (meets_bool_list l items hfit) ⟨hl, rfl, h⟩
end Mine
end
section
open PySem PySem.W PyProof.Rows PySem.Calls PySem.Spec
set_option Elab.async false
set_option maxRecDepth 100000
set_option maxHeartbeats 4000000
namespace Mine
/-- here the walk is to stop -/
noncomputable def Halt (P : Prop) : Prop := P
theorem halt {P : Prop} (h : Halt P) : P := h
/-- a turn's end -/
noncomputable def Turned (s₂ : Shared) (L : Addr) (St : Nat → Heap → Prop) (J : Nat → (Str → Option Value) → Heap → Prop) (i : Nat) (f : Flow) (s₃ : Shared) : Prop :=
  (f = .next ∨ f = .cont) ∧ ∃ h₃ tk₃ m₃, s₃ = { s₂ with heap := h₃, toks := tk₃ } ∧ h₃.Ns L m₃ ∧ St (i + 1) h₃ ∧ J (i + 1) m₃ h₃
/-- a for over an iterator, by what holds between the turns (J: the turn's number, the frame's names, the heap) -/
theorem forW {prog : Program} {w : World} {A : Around} {s₂ : Shared} {env : Env} {R : Result → Shared → Prop} {x : Str} {px : Pos} {body : List Stmt} {I : Addr} {fp wr : List Addr} {n : Nat} {P : Nat → Value → Prop} {St : Nat → Heap → Prop} {m : Str → Option Value}
    (J : Nat → (Str → Option Value) → Heap → Prop) (W : Walks prog w A I fp wr n P St) (hx : env.kindOf x = some .local) (hp : (env.scope.kind == .class || (env.scope.kind == .module && env.locals != env.globals)) = false)
    (hL : env.locals ∉ fp) (st : St 0 s₂.heap) (hn : s₂.heap.Ns env.locals m) (j : J 0 m s₂.heap)
    (turn : ∀ i v m h h₂ tk, i < n → P i v → J i m h → KpB (env.locals :: wr) h h₂ → h₂.Ns env.locals (fun y => if y = x then some v else m y) → St (i + 1) h₂ →
      wpAny (model prog w) A (execs body env) (fun f s₃ => Turned s₂ env.locals St J i f s₃)
        (notedBy (model prog w) A env fun e s' => R (.error e) s') { s₂ with heap := h₂, toks := tk })
    (done : ∀ m h h' tk, J n m h → KpB wr h h' → h'.Ns env.locals m → R (.ok .next) { s₂ with heap := h', toks := tk }) :
    codeAny (model prog w) A (.forLoop (.Name x px) (.ref I) body [] env) R s₂ := by
  have hLw : env.locals ∉ wr := fun h => hL (W.sub _ h)
  refine codeAny_forLoop (fun k s' => ∃ i h tk m, s' = { s₂ with heap := h, toks := tk } ∧ k = n - i ∧ i ≤ n ∧ St i h ∧ h.Ns env.locals m ∧ J i m h) ?_ n ⟨0, s₂.heap, s₂.toks, m, rfl, rfl, Nat.zero_le _, st, hn, j⟩
  rintro k s' ⟨i, h, tk, m, rfl, rfl, hi, sti, hni, ji⟩
  by_cases hlt : i < n
  · refine W.item i _ _ _ hlt sti fun v h₁ tk₁ hP st₁ hk₁ => ?_
    refine wpAny_assign_Name (wpAny_storeName_local hx (hni.at' fun o e => hk₁ _ o hLw e) (fun h₂ hn₂ hs₂ => ?_) hp)
    refine wpAny_mono (turn i v m h h₂ _ hlt hP ji (fun b o hb e => hs₂.extBut b o (fun q => hb (q ▸ .head _)) (hk₁ b o (fun q => hb (.tail _ q)) e)) hn₂ (W.frame _ _ _ st₁ fun b hb o e => hs₂.extBut b o (fun q => hL (q ▸ hb)) e)) (fun f s₃ q => ?_) fun _ _ e => e
    obtain ⟨hf, h₃, tk₃, m₃, rfl, n3, st3, j3⟩ := q
    rcases hf with rfl | rfl <;> exact ⟨n - (i + 1), by exact Mine.q14 hlt, i + 1, h₃, tk₃, m₃, rfl, rfl, hlt, st3, n3, j3⟩
  · obtain rfl : i = n := Nat.le_antisymm hi (Nat.le_of_not_lt hlt)
    exact W.done _ _ _ sti fun h₁ tk₁ hk₁ => wpAny_execs_nil (done m h h₁ tk₁ ji hk₁ (hni.at' fun o e => hk₁ _ o hLw e))
end Mine
end
section
namespace Mine
/-! the plain law: no program in sight -/
noncomputable def upTo (n : Nat) : List Int := (List.range n).map fun (i : Nat) => (i : Int)
theorem mem_ints {n : Nat} {p : Int} : p ∈ upTo n ↔ 0 ≤ p ∧ p < n := by
  unfold upTo
  rw [List.mem_map]
  constructor
  · rintro ⟨i, hi, rfl⟩
    exact ⟨Int.natCast_nonneg i, Int.ofNat_lt.mpr (List.mem_range.mp hi)⟩
  · rintro ⟨h0, h1⟩
    exact ⟨p.toNat, List.mem_range.mpr (by exact Mine.q15 h0 h1), by exact Mine.q16 h0⟩
theorem ints_pw (n : Nat) : (upTo n).Pairwise (· < ·) := by
  unfold upTo
  rw [List.pairwise_map]
  exact List.Pairwise.imp (fun h => Int.ofNat_lt.mpr h) List.pairwise_lt_range
theorem ints_nodup (n : Nat) : (upTo n).Nodup := (ints_pw n).imp fun h => Int.ne_of_lt h

noncomputable def upd {α : Type} (f : Int → α) (k : Int) (v : α) : Int → α := fun j => if j = k then v else f j
theorem upd_self {α : Type} (f : Int → α) (k : Int) (v : α) : upd f k v k = v := if_pos rfl
theorem upd_ne {α : Type} (f : Int → α) {k j : Int} (v : α) (h : j ≠ k) : upd f k v j = f j := if_neg h

section
variable (n : Nat) (tk : Int → List Int)
/-- what may come next: not known, all that it takes known -/
noncomputable def free (K : List Int) : List Int := (upTo n).filter fun p => decide (p ∉ K) && decide (∀ q ∈ tk p, q ∈ K)
/-- known after t rounds -/
noncomputable def kn : Nat → List Int
  | 0 => []
  | t + 1 => kn t ++ free n tk (kn t)
variable {n tk}
theorem mem_free {K : List Int} {p : Int} : p ∈ free n tk K ↔ p ∈ upTo n ∧ p ∉ K ∧ ∀ q ∈ tk p, q ∈ K := by
  unfold free
  rw [List.mem_filter, Bool.and_eq_true, decide_eq_true_eq, decide_eq_true_eq]
theorem free_pw (K : List Int) : (free n tk K).Pairwise (· < ·) := (ints_pw n).filter _
theorem free_congr {K K' : List Int} (h : ∀ p, p ∈ K ↔ p ∈ K') : free n tk K = free n tk K' := by
  unfold free
  refine List.filter_congr fun p _ => ?_
  simp only [h]
theorem mem_kn_succ {t : Nat} {p : Int} : p ∈ kn n tk (t + 1) ↔ p ∈ kn n tk t ∨ p ∈ free n tk (kn n tk t) := List.mem_append
theorem kn_mono {s t : Nat} (h : s ≤ t) {p : Int} (hp : p ∈ kn n tk s) : p ∈ kn n tk t := by
  induction h with
  | refl => exact hp
  | step _ ih => exact mem_kn_succ.mpr (.inl ih)
theorem kn_ints {t : Nat} {p : Int} (hp : p ∈ kn n tk t) : p ∈ upTo n := by
  induction t with
  | zero => exact absurd hp (List.not_mem_nil)
  | succ t ih => exact (mem_kn_succ.mp hp).elim ih fun h => (mem_free.mp h).1
theorem kn_nodup (t : Nat) : (kn n tk t).Nodup := by
  induction t with
  | zero => exact List.nodup_nil
  | succ t ih =>
    refine List.nodup_append.mpr ⟨ih, (free_pw _).imp fun h => Int.ne_of_lt h, fun a ha b hb e => ?_⟩
    exact (mem_free.mp hb).2.1 (e ▸ ha)
/-- where a round gives nothing, no later one gives -/
theorem kn_stop {t : Nat} (h : free n tk (kn n tk t) = []) : ∀ k, kn n tk (t + k) = kn n tk t
  | 0 => rfl
  | k + 1 => by
    show kn n tk (t + k) ++ free n tk (kn n tk (t + k)) = _
    rw [kn_stop h k, h, List.append_nil]
/-- a set each of whose members takes a member is never known -/
theorem kn_not {C : List Int} (hC : ∀ p ∈ C, ∃ q ∈ C, q ∈ tk p) : ∀ t, ∀ p ∈ C, p ∉ kn n tk t
  | 0, _, _ => List.not_mem_nil
  | t + 1, p, hp => fun h => by
    rcases mem_kn_succ.mp h with h | h
    · exact kn_not hC t p hp h
    · obtain ⟨q, hq, hqp⟩ := hC p hp
      exact kn_not hC t q hq ((mem_free.mp h).2.2 q hqp)

/-! the counts -/
noncomputable def cnt (tk : Int → List Int) (D : List Int) (p : Int) : Nat := (tk p).countP fun q => decide (q ∉ D)
theorem cnt_zero {D : List Int} {p : Int} : cnt tk D p = 0 ↔ ∀ q ∈ tk p, q ∈ D := by
  unfold cnt
  rw [List.countP_eq_zero]
  simp only [decide_eq_true_eq, Classical.not_not]
theorem cnt_congr {D D' : List Int} (h : ∀ q, q ∈ D ↔ q ∈ D') (p : Int) : cnt tk D p = cnt tk D' p := by
  unfold cnt
  refine List.countP_congr fun q _ => ?_
  simp only [h]
theorem cnt_more {D : List Int} {q : Int} (hq : q ∉ D) (p : Int) : cnt tk (D ++ [q]) p + (tk p).count q = cnt tk D p := by
  unfold cnt
  induction tk p with
  | nil => rfl
  | cons x l ih =>
    rw [List.countP_cons, List.countP_cons, List.count_cons]
    by_cases hx : x = q
    · subst hx
      have e1 : decide (x ∉ D ++ [x]) = false := decide_eq_false fun h => h (List.mem_append_right _ (.head _))
      have e2 : decide (x ∉ D) = true := decide_eq_true hq
      rw [e1, e2]
      simp only [BEq.rfl, if_true, Bool.false_eq_true, if_false]
      exact Mine.q17 ih
    · have e : decide (x ∉ D ++ [q]) = decide (x ∉ D) := by
        simp only [List.mem_append, List.mem_singleton, hx, or_false]
      rw [e]
      have hb : (x == q) = false := by simpa using hx
      simp only [hb, Bool.false_eq_true, if_false]
      exact Mine.q18 ih

/-! done, as the code goes -/
noncomputable def decOne (st : (Int → Int) × List Int) (s : Int) : (Int → Int) × List Int := (upd st.1 s (st.1 s - 1), if st.1 s - 1 = 0 then st.2 ++ [s] else st.2)
noncomputable def doneOne (su : Int → List Int) (st : (Int → Int) × List Int) (q : Int) : (Int → Int) × List Int := (su q).foldl decOne (upd st.1 q (-2), st.2)

/-- U: what is neither done nor given out; f: the counts that stand -/
structure DI (U : Int → Prop) (f : Int → Int) (np : Int → Int) (rdy : List Int) : Prop where
  cn : ∀ p, U p → np p = f p
  rd : ∀ p, p ∈ rdy ↔ U p ∧ f p = 0
  nd : rdy.Nodup
theorem dec_run {U : Int → Prop} {np₀ : Int → Int} : ∀ (l : List Int) (f : Int → Int) (np : Int → Int) (rdy : List Int), DI U f np rdy → (∀ p, ¬ U p → np p = np₀ p) → (∀ s ∈ l, U s ∧ (l.count s : Int) ≤ f s) →
    DI U (fun p => f p - l.count p) (l.foldl decOne (np, rdy)).1 (l.foldl decOne (np, rdy)).2 ∧ ∀ p, ¬ U p → (l.foldl decOne (np, rdy)).1 p = np₀ p
  | [], f, np, rdy, I, hn, _ => by
    refine ⟨⟨fun p hp => ?_, fun p => ?_, I.nd⟩, hn⟩
    · show np p = f p - (([] : List Int).count p : Int)
      rw [List.count_nil, I.cn p hp]; exact (Int.sub_zero _).symm
    · show p ∈ rdy ↔ U p ∧ f p - (([] : List Int).count p : Int) = 0
      rw [List.count_nil, I.rd p]
      show _ ↔ U p ∧ f p - 0 = 0
      rw [Int.sub_zero]
  | s :: l, f, np, rdy, I, hn, hl => by
    obtain ⟨hU, hc⟩ := hl s (.head _)
    rw [List.count_cons_self] at hc
    have hc' : (l.count s : Int) + 1 ≤ f s := by have : ((l.count s + 1 : Nat) : Int) = (l.count s : Int) + 1 := rfl; exact Mine.q19 hc
    have e1 : np s = f s := I.cn s hU
    have step := dec_run (U := U) (np₀ := np₀) l (upd f s (f s - 1)) (upd np s (np s - 1)) (if np s - 1 = 0 then rdy ++ [s] else rdy) ?_ ?_ ?_
    · have ef : (fun p => upd f s (f s - 1) p - (l.count p : Int)) = fun p => f p - ((s :: l).count p : Int) := by
        funext p
        by_cases hp : p = s
        · subst hp
          rw [upd_self, List.count_cons_self]
          have : ((l.count p + 1 : Nat) : Int) = (l.count p : Int) + 1 := rfl
          exact Mine.q20
        · rw [upd_ne _ _ hp, List.count_cons_of_ne (fun e => hp e.symm)]
      rw [ef] at step
      exact step
    · refine ⟨fun p hp => ?_, fun p => ?_, ?_⟩
      · by_cases h : p = s
        · subst h; rw [upd_self, upd_self, e1]
        · rw [upd_ne _ _ h, upd_ne _ _ h]; exact I.cn p hp
      · by_cases h : p = s
        · subst h
          rw [upd_self, e1]
          by_cases hz : f p - 1 = 0
          · rw [if_pos hz]
            exact ⟨fun _ => ⟨hU, hz⟩, fun _ => List.mem_append_right _ (.head _)⟩
          · rw [if_neg hz]
            exact ⟨fun m => absurd (I.rd p |>.mp m).2 (by exact Mine.q21 hc), fun m => absurd m.2 hz⟩
        · rw [upd_ne _ _ h]
          split
          · rw [List.mem_append, List.mem_singleton]
            exact ⟨fun m => (I.rd p).mp (m.resolve_right h), fun m => .inl ((I.rd p).mpr m)⟩
          · exact I.rd p
      · split
        · refine List.nodup_append.mpr ⟨I.nd, (List.nodup_cons.mpr ⟨List.not_mem_nil, List.nodup_nil⟩), fun a ha b hb e => ?_⟩
          rw [List.mem_singleton.mp hb] at e
          subst e
          have := ((I.rd a).mp ha).2
          exact Mine.q22 e1 ‹_› this
        · exact I.nd
    · intro p hp
      have hps : p ≠ s := fun e => hp (by rw [e]; exact hU)
      rw [upd_ne _ _ hps]
      exact hn p hp
    · intro x hx
      obtain ⟨u1, u2⟩ := hl x (.tail _ hx)
      refine ⟨u1, ?_⟩
      by_cases h : x = s
      · subst h; rw [upd_self]; exact Mine.q23 hc
      · rw [upd_ne _ _ h]
        rw [List.count_cons_of_ne (fun e => h e.symm)] at u2
        exact u2
theorem DI.congr {U : Int → Prop} {f g np : Int → Int} {rdy : List Int} (I : DI U f np rdy) (h : ∀ p, U p → f p = g p) : DI U g np rdy :=
  ⟨fun p hp => (I.cn p hp).trans (h p hp), fun p => (I.rd p).trans ⟨fun x => ⟨x.1, (h p x.1) ▸ x.2⟩, fun x => ⟨x.1, (h p x.1).trans x.2⟩⟩, I.nd⟩
/-- who takes whom, both ways -/
structure Gr (n : Nat) (tk su : Int → List Int) : Prop where
  tk_in : ∀ p ∈ upTo n, ∀ q ∈ tk p, q ∈ upTo n
  su_in : ∀ q ∈ upTo n, ∀ p ∈ su q, p ∈ upTo n
  both : ∀ p ∈ upTo n, ∀ q ∈ upTo n, (su q).count p = (tk p).count q
/-- one node is done -/
theorem one_run {su : Int → List Int} (g : Gr n tk su) {U : Int → Prop} {C : List Int} {q : Int} {np : Int → Int} {rdy : List Int} (hq : q ∈ upTo n) (hqC : q ∉ C) (hqU : ¬ U q) (hUi : ∀ p, U p → p ∈ upTo n)
    (hU : ∀ s ∈ upTo n, q ∈ tk s → U s) (I : DI U (fun p => (cnt tk C p : Int)) np rdy) :
    DI U (fun p => (cnt tk (C ++ [q]) p : Int)) (doneOne su (np, rdy) q).1 (doneOne su (np, rdy) q).2 ∧ ∀ p, ¬ U p → (doneOne su (np, rdy) q).1 p = upd np q (-2) p := by
  have key : ∀ p ∈ upTo n, (cnt tk (C ++ [q]) p : Int) + ((su q).count p : Int) = (cnt tk C p : Int) := fun p hp => by
    rw [g.both p hp q hq, ← cnt_more hqC p]; rfl
  have r := dec_run (U := U) (np₀ := upd np q (-2)) (su q) (fun p => (cnt tk C p : Int)) (upd np q (-2)) rdy
    ⟨fun p hp => (upd_ne np (-2) (show p ≠ q from fun e => hqU (e ▸ hp))).trans (I.cn p hp), I.rd, I.nd⟩ (fun _ _ => rfl) (fun s hs => ?_)
  · exact ⟨r.1.congr fun p hp => by have := key p (hUi p hp); exact Mine.q24 this, r.2⟩
  · have hsi := g.su_in q hq s hs
    have : 0 < (su q).count s := List.count_pos_iff.mpr hs
    rw [g.both s hsi q hq] at this
    refine ⟨hU s hsi (List.count_pos_iff.mp this), ?_⟩
    have := key s hsi
    exact Mine.q25 this
/-- the state between two rounds: D done, rdy what may be given -/
structure RI (n : Nat) (tk : Int → List Int) (D : List Int) (np : Int → Int) (rdy : List Int) : Prop where
  di : DI (fun p => p ∈ upTo n ∧ p ∉ D) (fun p => (cnt tk D p : Int)) np rdy
  cl : ∀ p ∈ D, ∀ q ∈ tk p, q ∈ D
  inn : ∀ p ∈ D, p ∈ upTo n
theorem RI.mem {D : List Int} {np : Int → Int} {rdy : List Int} (I : RI n tk D np rdy) {p : Int} : p ∈ rdy ↔ p ∈ free n tk D := by
  rw [I.di.rd p, mem_free]
  constructor
  · rintro ⟨⟨a, b⟩, c⟩; exact ⟨a, b, cnt_zero.mp (Int.ofNat_eq_zero.mp c)⟩
  · rintro ⟨a, b, c⟩; exact ⟨⟨a, b⟩, Int.ofNat_eq_zero.mpr (cnt_zero.mpr c)⟩
noncomputable def markOut (np : Int → Int) (rdy : List Int) : Int → Int := fun p => if p ∈ rdy then -1 else np p
/-- all that was given is done; at each one's turn its count is -1 -/
theorem all_run {su : Int → List Int} (g : Gr n tk su) {D rdy : List Int} {np : Int → Int} (I : RI n tk D np rdy) : ∀ (rest ds : List Int) (st : (Int → Int) × List Int), rdy = ds ++ rest →
    DI (fun p => p ∈ upTo n ∧ p ∉ D ++ rdy) (fun p => (cnt tk (D ++ ds) p : Int)) st.1 st.2 → (∀ p ∈ rest, st.1 p = -1) →
    RI n tk (D ++ rdy) (rest.foldl (doneOne su) st).1 (rest.foldl (doneOne su) st).2
  | [], ds, st, e, J, _ => by
    rw [List.append_nil] at e
    subst e
    refine ⟨J, fun p hp q hq => ?_, fun p hp => ?_⟩
    · rcases List.mem_append.mp hp with h | h
      · exact List.mem_append_left _ (I.cl p h q hq)
      · exact List.mem_append_left _ ((mem_free.mp (I.mem.mp h)).2.2 q hq)
    · rcases List.mem_append.mp hp with h | h
      · exact I.inn p h
      · exact (mem_free.mp (I.mem.mp h)).1
  | q :: rest, ds, st, e, J, hm => by
    have hqr : q ∈ rdy := e ▸ List.mem_append_right _ (.head _)
    have hqf := mem_free.mp (I.mem.mp hqr)
    have hnd : (ds ++ q :: rest).Nodup := e ▸ I.di.nd
    have hqd : q ∉ ds := fun h => (List.nodup_append.mp hnd).2.2 q h q (.head _) rfl
    have hqrest : q ∉ rest := (List.nodup_cons.mp (List.nodup_append.mp hnd).2.1).1
    have r := one_run g (U := fun p => p ∈ upTo n ∧ p ∉ D ++ rdy) (C := D ++ ds) (q := q) hqf.1 (fun h => (List.mem_append.mp h).elim hqf.2.1 hqd) (fun h => h.2 (List.mem_append_right _ hqr)) (fun p hp => hp.1)
      (fun s hs hqs => ⟨hs, fun h => hqf.2.1 ((List.mem_append.mp h).elim (fun hD => I.cl s hD q hqs) fun hr => (mem_free.mp (I.mem.mp hr)).2.2 q hqs)⟩) J
    refine all_run g I rest (ds ++ [q]) (doneOne su st q) (by rw [e, List.append_assoc]; rfl) (by rw [← List.append_assoc]; exact r.1) fun p hp => ?_
    have hpq : p ≠ q := fun z => hqrest (z ▸ hp)
    have e2 := r.2 p fun h => h.2 (List.mem_append_right _ (e ▸ List.mem_append_right _ (.tail _ hp)))
    rw [upd_ne _ _ hpq] at e2
    exact e2.trans (hm p (.tail _ hp))
theorem mark_run {D rdy : List Int} {np : Int → Int} (I : RI n tk D np rdy) : DI (fun p => p ∈ upTo n ∧ p ∉ D ++ rdy) (fun p => (cnt tk (D ++ []) p : Int)) (markOut np rdy) [] := by
  rw [List.append_nil]
  refine ⟨fun p hp => ?_, fun p => ⟨fun h => absurd h List.not_mem_nil, fun h => ?_⟩, List.nodup_nil⟩
  · have : p ∉ rdy := fun h => hp.2 (List.mem_append_right _ h)
    show (if p ∈ rdy then -1 else np p) = _
    rw [if_neg this]
    exact I.di.cn p ⟨hp.1, fun h => hp.2 (List.mem_append_left _ h)⟩
  · exact absurd ((I.di.rd p).mpr ⟨⟨h.1.1, fun q => h.1.2 (List.mem_append_left _ q)⟩, h.2⟩) fun q => h.1.2 (List.mem_append_right _ q)
/-- a whole round -/
theorem RI.round {su : Int → List Int} (g : Gr n tk su) {D rdy : List Int} {np : Int → Int} (I : RI n tk D np rdy) :
    RI n tk (D ++ rdy) (rdy.foldl (doneOne su) (markOut np rdy, [])).1 (rdy.foldl (doneOne su) (markOut np rdy, [])).2 :=
  all_run g I rdy [] _ rfl (mark_run I) fun p hp => if_pos hp
/-- rounds: the sorted ready is what is free -/
theorem sorted_eq {l m : List Int} (hl : l.Pairwise (· < ·)) (hm : m.Pairwise (· < ·)) (h : ∀ p, p ∈ l ↔ p ∈ m) : l = m := by
  induction l generalizing m with
  | nil => cases m with | nil => rfl | cons b m => exact absurd ((h b).mpr (.head _)) List.not_mem_nil
  | cons a l ih =>
    cases m with
    | nil => exact absurd ((h a).mp (.head _)) List.not_mem_nil
    | cons b m =>
      rw [List.pairwise_cons] at hl hm
      have hab : a = b := by
        rcases List.mem_cons.mp ((h a).mp (.head _)) with e | e
        · exact e
        · rcases List.mem_cons.mp ((h b).mpr (.head _)) with e' | e'
          · exact e'.symm
          · have := hm.1 a e; have := hl.1 b e'; exact Mine.q26 ‹_› this
      subst hab
      congr 1
      refine ih hl.2 hm.2 fun p => ⟨fun hp => ?_, fun hp => ?_⟩
      · rcases List.mem_cons.mp ((h p).mp (.tail _ hp)) with e | e
        · have := hl.1 p hp; exact absurd (Mine.q27 e this) id
        · exact e
      · rcases List.mem_cons.mp ((h p).mpr (.tail _ hp)) with e | e
        · have := hm.1 p hp; exact absurd (Mine.q27 e this) id
        · exact e
end
end Mine
end
section
namespace Mine
/-! the depth-first look for a ring, as the code goes: the stack (top first) with how many successors were drawn -/
noncomputable def Ok (su : Int → List Int) (fin : List Int) : Option Int → List (Int × Nat) → Prop
  | _, [] => True
  | nx, (s, c) :: r => c ≤ (su s).length ∧ (∀ i x, i < c → (su s)[i]? = some x → x ∈ fin ∨ nx = some x) ∧ (∀ x, nx = some x → x ∈ su s) ∧ Ok su fin (some s) r
theorem Ok.fin {su : Int → List Int} {fin fin' : List Int} (h : ∀ x ∈ fin, x ∈ fin') : ∀ {nx : Option Int} {l : List (Int × Nat)}, Ok su fin nx l → Ok su fin' nx l
  | _, [], _ => trivial
  | _, _ :: _, ⟨a, b, c, d⟩ => ⟨a, fun i x hi hx => (b i x hi hx).imp (h x) id, c, Ok.fin h d⟩
/-- what was pending is finished -/
theorem Ok.settle {su : Int → List Int} {fin fin' : List Int} {x : Int} (h : ∀ x ∈ fin, x ∈ fin') (hx : x ∈ fin') : ∀ {l : List (Int × Nat)}, Ok su fin (some x) l → Ok su fin' none l
  | [], _ => trivial
  | _ :: _, ⟨a, b, _, d⟩ => ⟨a, fun i y hi hy => .inl ((b i y hi hy).elim (h y) fun e => Option.some.inj e ▸ hx), fun _ e => (nomatch e), d.fin h⟩
/-- a successor is drawn -/
theorem Ok.draw {su : Int → List Int} {fin : List Int} {s : Int} {c : Nat} {x : Int} {r : List (Int × Nat)} (h : Ok su fin none ((s, c) :: r)) (hx : (su s)[c]? = some x) : Ok su fin (some x) ((s, c + 1) :: r) := by
  obtain ⟨_, b, _, d⟩ := h
  have hc := (List.getElem?_eq_some_iff.mp hx).1
  refine ⟨hc, fun i y hi hy => ?_, fun y e => Option.some.inj e ▸ List.mem_of_getElem? hx, d⟩
  rcases Nat.lt_succ_iff_lt_or_eq.mp hi with h | h
  · exact (b i y h hy).imp id fun e => nomatch e
  · subst h; rw [hx] at hy; exact .inr hy
/-- a new node is laid upon the stack -/
theorem Ok.push {su : Int → List Int} {fin : List Int} {x : Int} {l : List (Int × Nat)} (h : Ok su fin (some x) l) : Ok su fin none ((x, 0) :: l) :=
  ⟨Nat.zero_le _, fun i _ hi _ => absurd hi (Nat.not_lt_zero i), fun _ e => (nomatch e), h⟩
theorem Ok.start {su : Int → List Int} {fin : List Int} (x : Int) : Ok su fin (some x) [] := trivial
/-- all successors of the top are finished where none is left to draw -/
theorem Ok.drawn {su : Int → List Int} {fin : List Int} {s : Int} {c : Nat} {r : List (Int × Nat)} (h : Ok su fin none ((s, c) :: r)) (hc : (su s)[c]? = none) : ∀ x ∈ su s, x ∈ fin := fun x hx => by
  obtain ⟨i, hi, e⟩ := List.getElem_of_mem hx
  have hle : (su s).length ≤ c := List.getElem?_eq_none_iff.mp hc
  exact (h.2.1 i x (Nat.lt_of_lt_of_le hi hle) (by rw [List.getElem?_eq_getElem hi, e])).elim id fun z => nomatch z
/-- a ring: each member is a successor of a member -/
theorem Ok.ring {su : Int → List Int} {fin : List Int} {x : Int} : ∀ {l : List (Int × Nat)} {y : Int}, Ok su fin (some y) l → x ∈ l.map (·.1) →
    ∃ C : List Int, x ∈ C ∧ (∀ p ∈ C, p ∈ l.map (·.1)) ∧ (∃ q ∈ C, y ∈ su q) ∧ ∀ p ∈ C, p ≠ x → ∃ q ∈ C, p ∈ su q
  | [], _, _, hx => absurd hx List.not_mem_nil
  | (s, c) :: r, y, ⟨_, _, h1, h2⟩, hx => by
    by_cases e : s = x
    · subst e
      exact ⟨[s], .head _, fun p hp => List.mem_singleton.mp hp ▸ .head _, ⟨s, .head _, h1 y rfl⟩, fun p hp hn => absurd (List.mem_singleton.mp hp) hn⟩
    · have hx' : x ∈ r.map (·.1) := (List.mem_cons.mp hx).resolve_left fun q => e q.symm
      obtain ⟨C, a, b, ⟨q, hq, hs⟩, d⟩ := h2.ring hx'
      refine ⟨s :: C, .tail _ a, fun p hp => ?_, ⟨s, .head _, h1 y rfl⟩, fun p hp hn => ?_⟩
      · rcases List.mem_cons.mp hp with rfl | hp
        · exact .head _
        · exact .tail _ (b p hp)
      · rcases List.mem_cons.mp hp with rfl | hp
        · exact ⟨q, .tail _ hq, hs⟩
        · obtain ⟨q', hq', h'⟩ := d p hp hn
          exact ⟨q', .tail _ hq', h'⟩
/-- finished in an order: each one's successors before it -/
noncomputable def Fin (su : Int → List Int) (fin : List Int) : Prop := ∀ l f r, fin = l ++ f :: r → ∀ x ∈ su f, x ∈ l
theorem Fin.nil {su : Int → List Int} : Fin su [] := fun l f r e => by cases l <;> cases e
theorem Fin.snoc {su : Int → List Int} {fin : List Int} {s : Int} (h : Fin su fin) (hs : ∀ x ∈ su s, x ∈ fin) : Fin su (fin ++ [s]) := fun l f r e x hx => by
  rcases List.append_eq_append_iff.mp e with ⟨m, h1, h2⟩ | ⟨m, h1, h2⟩
  · cases m with
    | nil =>
      rw [List.nil_append] at h2
      rw [List.append_nil] at h1
      cases h2
      exact h1 ▸ hs x hx
    | cons b m =>
      cases m <;> cases h2
  · cases m with
    | nil =>
      rw [List.append_nil] at h1
      rw [List.nil_append] at h2
      injection h2 with h2 _
      subst h2
      exact h1 ▸ hs x hx
    | cons b m =>
      injection h2 with h2 h3
      subst h2
      exact h l f m h1 x hx
section
variable {n : Nat} {tk su : Int → List Int}
/-- all finished: all come to be known -/
theorem Fin.known (g : Gr n tk su) : ∀ (r l : List Int), Fin su (l ++ r) → (∀ p, p ∈ upTo n ↔ p ∈ l ++ r) → (l ++ r).Nodup → ∀ p ∈ r, p ∈ kn n tk r.length
  | [], _, _, _, _, p, hp => absurd hp List.not_mem_nil
  | f :: r, l, h, hm, hn, p, hp => by
    have e : l ++ f :: r = (l ++ [f]) ++ r := by rw [List.append_assoc]; rfl
    have ih := Fin.known g r (l ++ [f]) (e ▸ h) (e ▸ hm) (e ▸ hn)
    rcases List.mem_cons.mp hp with rfl | hp
    · have hpi := (hm p).mpr (List.mem_append_right _ (.head _))
      by_cases hk : p ∈ kn n tk r.length
      · exact kn_mono (Nat.le_succ _) hk
      · refine mem_kn_succ.mpr (.inr (mem_free.mpr ⟨hpi, hk, fun q hq => ?_⟩))
        have hqi := g.tk_in p hpi q hq
        have hps : p ∈ su q := List.count_pos_iff.mp (by rw [g.both p hpi q hqi]; exact List.count_pos_iff.mpr hq)
        rcases List.mem_append.mp ((hm q).mp hqi) with hl | hr
        · obtain ⟨l1, l2, rfl⟩ := List.append_of_mem hl
          have : p ∈ l1 := h l1 q (l2 ++ p :: r) (by rw [List.append_assoc]; rfl) p hps
          exact absurd rfl ((List.nodup_append.mp hn).2.2 p (List.mem_append_left _ this) p (.head _))
        · rcases List.mem_cons.mp hr with rfl | hr
          · have : q ∈ l := h l q r rfl q hps
            exact absurd rfl ((List.nodup_append.mp hn).2.2 q this q (.head _))
          · exact ih q hr
    · exact kn_mono (Nat.le_succ _) (ih p hp)
/-- no ring: as many are known as there are -/
theorem full_of_fin (g : Gr n tk su) {fin : List Int} (h : Fin su fin) (hm : ∀ p, p ∈ upTo n ↔ p ∈ fin) (hn : fin.Nodup) : (kn n tk n).length = n := by
  have hl : fin.length = n := by
    have := ((List.perm_ext_iff_of_nodup hn (ints_nodup n)).mpr fun p => (hm p).symm).length_eq
    rw [this]; unfold upTo; rw [List.length_map, List.length_range]
  have hk := Fin.known g fin [] (by rw [List.nil_append]; exact h) (by rw [List.nil_append]; exact hm) (by rw [List.nil_append]; exact hn)
  rw [hl] at hk
  have := ((List.perm_ext_iff_of_nodup (kn_nodup n) hn).mpr fun p => ⟨fun x => (hm p).mp (kn_ints x), hk p⟩).length_eq
  rw [this, hl]
theorem nodup_le : ∀ {l m : List Int}, l.Nodup → (∀ p ∈ l, p ∈ m) → l.length ≤ m.length
  | [], _, _, _ => Nat.zero_le _
  | a :: l, m, hn, h => by
    have ha := h a (.head _)
    have ih := nodup_le (m := m.erase a) (List.nodup_cons.mp hn).2 fun p hp =>
      (List.mem_erase_of_ne (show p ≠ a from fun e => (List.nodup_cons.mp hn).1 (e ▸ hp))).mpr (h p (.tail _ hp))
    rw [List.length_erase_of_mem ha] at ih
    have : 0 < m.length := List.length_pos_of_mem ha
    rw [List.length_cons]
    exact Mine.q28 ih this
/-- a ring: some are never known -/
theorem less_of_ring (g : Gr n tk su) {C : List Int} {x : Int} (hx : x ∈ C) (hi : ∀ p ∈ C, p ∈ upTo n) (hC : ∀ p ∈ C, ∃ q ∈ C, p ∈ su q) : (kn n tk n).length < n := by
  have hnot := kn_not (n := n) (tk := tk) (C := C) (fun p hp => by
    obtain ⟨q, hq, hs⟩ := hC p hp
    exact ⟨q, hq, List.count_pos_iff.mp (by rw [← g.both p (hi p hp) q (hi q hq)]; exact List.count_pos_iff.mpr hs)⟩) n x hx
  have hnd : (x :: kn n tk n).Nodup := List.nodup_cons.mpr ⟨hnot, kn_nodup n⟩
  have hsub : ∀ p ∈ x :: kn n tk n, p ∈ upTo n := fun p hp => (List.mem_cons.mp hp).elim (fun e => e ▸ hi x hx) kn_ints
  have := nodup_le hnd hsub
  rw [List.length_cons] at this
  have hli : (upTo n).length = n := by unfold upTo; rw [List.length_map, List.length_range]
  exact Mine.q29 this hli
end
end Mine
end
section
open PySem PySem.W PyProof.Rows PySem.Calls PySem.Spec
set_option Elab.async false
set_option maxRecDepth 100000
set_option maxHeartbeats 4000000
namespace Mine
section
variable {prog : Program} {w : World} {n₀ : Nat} {h h' : Heap} {S : Addr} {ℓ : SL} {ord : List Int} {np : Int → Int} {su : Int → List Int} {rdy : Value} {po fi : Int}
/-- an address that is no part of a sorter -/
structure Off (S : Addr) (ℓ : SL) (ord : List Int) (a : Addr) : Prop where
  s : a ≠ S
  d : a ≠ ℓ.dS
  n : a ≠ ℓ.n2
  i : ∀ k ∈ ord, a ≠ ℓ.ia k
  l : ∀ k ∈ ord, a ≠ ℓ.la k
  x : ∀ k ∈ ord, a ≠ ℓ.dx k
theorem Off.none (H : SrtH prog w n₀ h S ℓ ord np su rdy po fi) {a : Addr} (ha : h.get? a = none) : Off S ℓ ord a := by
  refine ⟨fun e => ?_, fun e => ?_, fun e => ?_, fun k hk e => ?_, fun k hk e => ?_, fun k hk e => ?_⟩
  · rw [e, H.inst] at ha; cases ha
  · obtain ⟨_, _, _, _, _, _, _, q⟩ := H.dict; rw [e, q] at ha; cases ha
  · obtain ⟨_, q, _⟩ := H.tab; rw [e, q] at ha; cases ha
  · obtain ⟨_, _, q, _⟩ := H.info k hk; rw [e, q] at ha; cases ha
  · obtain ⟨_, _, q, _⟩ := H.lst k hk; rw [e, q] at ha; cases ha
  · obtain ⟨_, _, _, q⟩ := H.info k hk; rw [e, q] at ha; cases ha
theorem SrtH.keep (H : SrtH prog w n₀ h S ℓ ord np su rdy po fi) {W : List Addr} (k : KpB W h h') (hW : ∀ a ∈ W, Off S ℓ ord a) : SrtH prog w n₀ h' S ℓ ord np su rdy po fi := by
  refine ⟨k _ _ (fun q => (hW _ q).s rfl) H.inst, ?_, ?_, fun j hj => ?_, fun j hj => ?_, H.ne, H.ia1, H.la1, H.sm, H.lo⟩
  · obtain ⟨a, b, c, d, e, f, g, q⟩ := H.dict
    exact ⟨a, b, c, d, e, f, g, k _ _ (fun q => (hW _ q).d rfl) q⟩
  · obtain ⟨o, q, r⟩ := H.tab
    exact ⟨o, k _ _ (fun q => (hW _ q).n rfl) q, r⟩
  · obtain ⟨t, u, q, r⟩ := H.info j hj
    exact ⟨t, u, k _ _ (fun z => (hW _ z).i j hj rfl) q, k _ _ (fun z => (hW _ z).x j hj rfl) r⟩
  · obtain ⟨vs, n, q, r⟩ := H.lst j hj
    exact ⟨vs, n, k _ _ (fun z => (hW _ z).l j hj rfl) q, r⟩
/-- one count is set -/
theorem SrtH.setNp (H : SrtH prog w n₀ h S ℓ ord np su rdy po fi) {p v : Int} {t u : Tok} (hp : p ∈ ord) {W : List Addr} (k : KpB W h h') (hW : ∀ a ∈ W, a = ℓ.ia p ∨ Off S ℓ ord a)
    (ho : h'.get? (ℓ.ia p) = some (niObj (ℓ.dx p) p t v u (ℓ.la p))) : SrtH prog w n₀ h' S ℓ ord (upd np p v) su rdy po fi := by
  have nei {a : Addr} {o : Obj} (e : h.get? a = some o) (hc : o.cls ≠ .ref 67) : a ≠ ℓ.ia p := fun q => by
    obtain ⟨_, _, z, _⟩ := H.info p hp
    rw [q, z] at e
    cases e
    exact hc rfl
  have no {a : Addr} (h1 : a ≠ ℓ.ia p) (h2 : ¬ Off S ℓ ord a) : a ∉ W := fun q => (hW a q).elim h1 h2
  refine ⟨k _ _ (no (nei H.inst (by intro e; cases e)) fun z => z.s rfl) H.inst, ?_, ?_, fun j hj => ?_, fun j hj => ?_, H.ne, H.ia1, H.la1, H.sm, H.lo⟩
  · obtain ⟨a, b, c, d, e, f, g, q⟩ := H.dict
    exact ⟨a, b, c, d, e, f, g, k _ _ (no (nei q (by intro e; cases e)) fun z => z.d rfl) q⟩
  · obtain ⟨o, q, r⟩ := H.tab
    refine ⟨o, k _ _ (no (nei q ?_) fun z => z.n rfl) q, r⟩
    obtain ⟨_, _, hx, _⟩ := r
    rw [hx.1]; intro e; cases e
  · obtain ⟨t', u', q, r⟩ := H.info j hj
    have r' := k _ _ (no (nei r (by intro e; cases e)) fun z => z.x j hj rfl) r
    by_cases e : j = p
    · subst e
      rw [upd_self]
      exact ⟨t, u, ho, r'⟩
    · rw [upd_ne _ _ e]
      exact ⟨t', u', k _ _ (no (fun z => e (H.ia1 j hj p hp z)) fun z => z.i j hj rfl) q, r'⟩
  · obtain ⟨vs, n, q, r⟩ := H.lst j hj
    exact ⟨vs, n, k _ _ (no (nei q (by intro e; cases e)) fun z => z.l j hj rfl) q, r⟩
theorem mark_take {rdy : List Int} {i : Nat} {p : Int} (hp : rdy[i]? = some p) : markOut np (rdy.take (i + 1)) = upd (markOut np (rdy.take i)) p (-1) := funext fun q => by
  have e : rdy.take (i + 1) = rdy.take i ++ [p] := by rw [List.take_add_one, hp]; rfl
  unfold markOut upd
  rw [e]
  by_cases h : q = p
  · rw [if_pos h, if_pos (by rw [h]; exact List.mem_append_right _ (.head _))]
  · rw [if_neg h]
    show _ = if q ∈ rdy.take i then -1 else np q
    by_cases h2 : q ∈ rdy.take i
    · rw [if_pos h2, if_pos (List.mem_append_left _ h2)]
    · rw [if_neg h2, if_neg fun z => (List.mem_append.mp z).elim h2 fun z => h (List.mem_singleton.mp z)]
theorem SrtH.ne3 (H : SrtH prog w n₀ h S ℓ ord np su rdy po fi) {p : Int} (hp : p ∈ ord) : ℓ.n2 ≠ ℓ.ia p ∧ ℓ.n2 ≠ ℓ.dx p ∧ ℓ.ia p ≠ ℓ.dx p := by
  obtain ⟨_, _, gi, gx⟩ := H.info p hp
  obtain ⟨oD, hoD, es, ep, hx, hd, _, pp, _⟩ := H.tab
  refine ⟨fun e => ?_, fun e => ?_, fun e => ?_⟩
  · rw [e, gi] at hoD; cases hoD; cases hx.1
  · rw [e, gx] at hoD; cases hoD; cases hd
    have := pp.length
    cases ord with
    | nil => cases hp
    | cons a r => cases this
  · rw [e, gx] at gi; cases gi
theorem al2 {α : Type} {a b : α} {P : α → Prop} (ha : P a) (hb : P b) : ∀ x ∈ [a, b], P x := List.forall_mem_cons.mpr ⟨ha, List.forall_mem_singleton.mpr hb⟩
theorem al3 {α : Type} {a b c : α} {P : α → Prop} (ha : P a) (hb : P b) (hc : P c) : ∀ x ∈ [a, b, c], P x := List.forall_mem_cons.mpr ⟨ha, al2 hb hc⟩
theorem al4 {α : Type} {a b c d : α} {P : α → Prop} (ha : P a) (hb : P b) (hc : P c) (hd : P d) : ∀ x ∈ [a, b, c, d], P x := List.forall_mem_cons.mpr ⟨ha, al3 hb hc hd⟩
theorem take_map {f : Int → Addr} {rdy : List Int} {i : Nat} {p : Int} (hp : rdy[i]? = some p) : (∀ y ∈ (rdy.take i).map f, y ∈ (rdy.take (i + 1)).map f) ∧ f p ∈ (rdy.take (i + 1)).map f := by
  have e : rdy.take (i + 1) = rdy.take i ++ [p] := by rw [List.take_add_one, hp]; rfl
  rw [e, List.map_append]
  exact ⟨fun y q => List.mem_append_left _ q, List.mem_append_right _ (.head _)⟩
theorem kp_turn {L I x : Addr} {W W' : List Addr} {h0 h1 h2 h3 : Heap} (a : KpB (L :: I :: W) h0 h1) (b : KpB [L, I] h1 h2) (c : KpB [L, x] h2 h3) (hw : ∀ y ∈ W, y ∈ W') (hx : x ∈ W') : KpB (L :: I :: W') h0 h3 := fun y o hy e => by
  have n1 : y ≠ L := fun q => hy (q ▸ .head _)
  have n2 : y ≠ I := fun q => hy (q ▸ .tail _ (.head _))
  have n3 : y ∉ W' := fun q => hy (.tail _ (.tail _ q))
  refine c y o (nin2 n1 fun q => n3 (q ▸ hx)) (b y o (nin2 n1 n2) (a y o (fun q => ?_) e))
  rcases List.mem_cons.mp q with q | q
  · exact n1 q
  · rcases List.mem_cons.mp q with q | q
    · exact n2 q
    · exact n3 (hw _ q)
/-- the sorter's own dict is set -/
theorem SrtH.setD (H : SrtH prog w n₀ h S ℓ ord np su rdy po fi) {rdy' : Value} {po' fi' : Int} {W : List Addr} (k : KpB W h h') (hW : ∀ a ∈ W, a = ℓ.dS ∨ Off S ℓ ord a)
    (hd : ∃ k0 k1 k2 k3 t1 t2 dn, h'.get? ℓ.dS = some (dictOf (srtD w k0 k1 k2 k3 (.ref ℓ.n2) rdy' (.int po' t1) (.int fi' t2)) dn)) : SrtH prog w n₀ h' S ℓ ord np su rdy' po' fi' := by
  obtain ⟨k0, k1, k2, k3, t1, t2, dn, hdS⟩ := H.dict
  have no {a : Addr} (h1 : a ≠ ℓ.dS) (h2 : ¬ Off S ℓ ord a) : a ∉ W := fun q => (hW a q).elim h1 h2
  refine ⟨k _ _ (no (fun e => ?_) fun z => z.s rfl) H.inst, hd, ?_, fun j hj => ?_, fun j hj => ?_, H.ne, H.ia1, H.la1, H.sm, H.lo⟩
  · have := H.inst; rw [e, hdS] at this; cases this
  · obtain ⟨o, q, r⟩ := H.tab
    exact ⟨o, k _ _ (no H.ne.symm fun z => z.n rfl) q, r⟩
  · obtain ⟨t', u', q, r⟩ := H.info j hj
    refine ⟨t', u', k _ _ (no (fun e => ?_) fun z => z.i j hj rfl) q, k _ _ (no (fun e => ?_) fun z => z.x j hj rfl) r⟩
    · rw [e, hdS] at q; cases q
    · rw [e, hdS] at r; cases r
  · obtain ⟨vs, n, q, r⟩ := H.lst j hj
    refine ⟨vs, n, k _ _ (no (fun e => ?_) fun z => z.l j hj rfl) q, r⟩
    rw [e, hdS] at q; exact absurd (Value.type.inj (congrArg Obj.cls (Option.some.inj q))) (by decide)
theorem KpB.fresh {W W' : List Addr} (k : KpB W h h') (hs : ∀ a ∈ W, a ∈ W' ∨ h.get? a = none) : KpB W' h h' := fun b o hb e => k b o (fun q => (hs b q).elim hb fun z => by rw [z] at e; cases e) e
theorem KpB.trans' {W V U : List Addr} {a b c : Heap} (x : KpB W a b) (y : KpB V b c) (hw : ∀ z ∈ W, z ∈ U) (hv : ∀ z ∈ V, z ∈ U) : KpB U a c := (x.more hw).trans (y.more hv)
theorem SrtH.ne4 (H : SrtH prog w n₀ h S ℓ ord np su rdy po fi) {p : Int} (hp : p ∈ ord) : ℓ.la p ≠ ℓ.ia p ∧ ℓ.la p ≠ ℓ.dx p := by
  obtain ⟨_, _, gi, gx⟩ := H.info p hp
  obtain ⟨_, _, gl, _⟩ := H.lst p hp
  refine ⟨fun e => ?_, fun e => ?_⟩
  · rw [e, gi] at gl; cases gl
  · rw [e, gx] at gl; exact absurd (Value.type.inj (congrArg Obj.cls (Option.some.inj gl))) (by decide)
theorem SrtH.neSd (H : SrtH prog w n₀ h S ℓ ord np su rdy po fi) : S ≠ ℓ.dS := fun e => by
  obtain ⟨k0, k1, k2, k3, t1, t2, dn, hdS⟩ := H.dict
  have := H.inst; rw [e, hdS] at this; cases this
/-- a sorter has grown; what is no part of it stays -/
structure Ext (S : Addr) (ℓ : SL) (ord : List Int) (ℓ' : SL) (ord' : List Int) (h h' : Heap) : Prop where
  keep : ∀ b o, Off S ℓ ord b → h.get? b = some o → h'.get? b = some o
  off : ∀ b o, h.get? b = some o → Off S ℓ ord b → Off S ℓ' ord' b
  dS : ℓ'.dS = ℓ.dS
  n2 : ℓ'.n2 = ℓ.n2
theorem Ext.trans {ℓ' ℓ'' : SL} {ord' ord'' : List Int} {h'' : Heap} (x : Ext S ℓ ord ℓ' ord' h h') (y : Ext S ℓ' ord' ℓ'' ord'' h' h'') : Ext S ℓ ord ℓ'' ord'' h h'' :=
  ⟨fun b o f e => y.keep b o (x.off b o e f) (x.keep b o f e), fun b o e f => y.off b o (x.keep b o f e) (x.off b o e f), y.dS.trans x.dS, y.n2.trans x.n2⟩
/-- what is written are parts of it -/
theorem Ext.of_kpB {W : List Addr} (k : KpB W h h') (hW : ∀ a ∈ W, ¬ Off S ℓ ord a ∨ h.get? a = none) : Ext S ℓ ord ℓ ord h h' :=
  ⟨fun b o f e => k b o (fun q => (hW b q).elim (fun z => z f) fun z => by rw [z] at e; cases e) e, fun _ _ _ f => f, rfl, rfl⟩
theorem Ext.kpB {ℓ' : SL} {ord' : List Int} {h0 : Heap} (X : Ext S ℓ ord ℓ' ord' h0 h) {W : List Addr} (k : KpB W h h') (hW : ∀ a ∈ W, h0.get? a = none ∨ ¬ Off S ℓ' ord' a) : Ext S ℓ ord ℓ' ord' h0 h' :=
  ⟨fun b o f e => k b o (fun q => (hW b q).elim (fun z => by rw [z] at e; cases e) fun z => z (X.off b o e f)) (X.keep b o f e), X.off, X.dS, X.n2⟩
theorem Ext.of_kp (k : Kp h h') : Ext S ℓ ord ℓ ord h h' := ⟨fun b o _ e => k b o e, fun _ _ _ f => f, rfl, rfl⟩
theorem SrtH.size (H : SrtH prog w n₀ h S ℓ ord np su rdy po fi) : n₀ ≤ h.objs.size := Nat.le_trans H.lo.1 (Nat.le_of_lt (Heap.lt_size H.inst))
theorem SrtH.addNew (H : SrtH prog w n₀ h S ℓ ord np su rdy po fi) {k : Int} {t u : Tok} {x l dx : Addr} {o' : Obj} (hk : k ∉ ord) (kb : KpB [ℓ.n2] h h') (ho' : h'.get? ℓ.n2 = some o')
    (hd' : o'.IsDictOf (intKind prog w) (ord.map (fun j => (j, .ref (ℓ.ia j))) ++ [(k, .ref x)])) (gx : h'.get? x = some (niObj dx k t 0 u l)) (gdx : h'.get? dx = some (dictOf [] 0)) (gl : h'.get? l = some (W.listOf #[] 0))
    (fx : h.get? x = none) (fdx : h.get? dx = none) (fl : h.get? l = none) (bx : n₀ ≤ x) (bdx : n₀ ≤ dx) (bl : n₀ ≤ l) :
    ∃ ℓ' : SL, ℓ'.ia k = x ∧ SrtH prog w n₀ h' S ℓ' (ord ++ [k]) (upd np k 0) (upd su k []) rdy po fi ∧ Ext S ℓ ord ℓ' (ord ++ [k]) h h' := by
  have ne {j : Int} (hj : j ∈ ord) : j ≠ k := fun e => hk (e ▸ hj)
  have n1 {a : Addr} {o : Obj} (hn : a ≠ ℓ.n2) (e : h.get? a = some o) : h'.get? a = some o := kb a o (nin1 hn) e
  have mk {p : Int → Prop} (h1 : ∀ j ∈ ord, p j) (h2 : p k) : ∀ j ∈ ord ++ [k], p j := fun j hj => by
    rcases List.mem_append.mp hj with q | q
    · exact h1 j q
    · rw [List.mem_singleton.mp q]; exact h2
  have inj {f : Int → Addr} {y : Addr} (hf : ∀ j ∈ ord, ∃ o, h.get? (f j) = some o) (hy : h.get? y = none) (i1 : ∀ i ∈ ord, ∀ j ∈ ord, f i = f j → i = j) : ∀ i ∈ ord ++ [k], ∀ j ∈ ord ++ [k], upd f k y i = upd f k y j → i = j := by
    have ny {j : Int} (hj : j ∈ ord) : f j ≠ y := fun e => by obtain ⟨o, q⟩ := hf j hj; rw [e, hy] at q; cases q
    refine mk (fun i hi => mk (fun j hj => ?_) ?_) (mk (fun j hj => ?_) fun _ => rfl)
    · rw [upd_ne _ _ (ne hi), upd_ne _ _ (ne hj)]; exact i1 i hi j hj
    · rw [upd_ne _ _ (ne hi), upd_self]; exact fun e => absurd e (ny hi)
    · rw [upd_ne _ _ (ne hj), upd_self]; exact fun e => absurd e.symm (ny hj)
  obtain ⟨oD, hoD, hD⟩ := H.tab
  refine ⟨⟨ℓ.dS, ℓ.n2, upd ℓ.ia k x, upd ℓ.la k l, upd ℓ.dx k dx⟩, upd_self .., ⟨n1 (H.apart hoD hD) H.inst, ?_, ⟨o', ho', ?_⟩, ?_, ?_, H.ne, inj (fun j hj => ?_) fx H.ia1, inj (fun j hj => ?_) fl H.la1, H.sm, H.lo.1, H.lo.2.1, H.lo.2.2.1, ?_⟩, ⟨fun b o f e => n1 f.n e, fun b o e f => ⟨f.s, f.d, f.n, ?_, ?_, ?_⟩, rfl, rfl⟩⟩
  · obtain ⟨a, b, c, d, e, f, g, q⟩ := H.dict
    exact ⟨a, b, c, d, e, f, g, n1 H.ne q⟩
  · have : SL.tab ⟨ℓ.dS, ℓ.n2, upd ℓ.ia k x, upd ℓ.la k l, upd ℓ.dx k dx⟩ (ord ++ [k]) = ord.map (fun j => (j, .ref (ℓ.ia j))) ++ [(k, .ref x)] := by
      unfold SL.tab
      rw [List.map_append]
      have e1 : ord.map (fun j => (j, Value.ref (upd ℓ.ia k x j))) = ord.map (fun j => (j, .ref (ℓ.ia j))) := List.map_congr_left fun j hj => by rw [upd_ne _ _ (ne hj)]
      show ord.map (fun j => (j, Value.ref (upd ℓ.ia k x j))) ++ [(k, Value.ref (upd ℓ.ia k x k))] = _
      rw [e1, upd_self]
    rw [this]; exact hd'
  · refine mk (fun j hj => ?_) ?_
    · obtain ⟨t', u', q, r⟩ := H.info j hj
      refine ⟨t', u', ?_⟩
      show h'.get? (upd ℓ.ia k x j) = some (niObj (upd ℓ.dx k dx j) j t' (upd np k 0 j) u' (upd ℓ.la k l j)) ∧ h'.get? (upd ℓ.dx k dx j) = some (dictOf [] 0)
      rw [upd_ne _ _ (ne hj), upd_ne _ _ (ne hj), upd_ne _ _ (ne hj), upd_ne _ _ (ne hj)]
      exact ⟨n1 (H.ne3 hj).1.symm q, n1 (H.ne3 hj).2.1.symm r⟩
    · refine ⟨t, u, ?_⟩
      show h'.get? (upd ℓ.ia k x k) = some (niObj (upd ℓ.dx k dx k) k t (upd np k 0 k) u (upd ℓ.la k l k)) ∧ h'.get? (upd ℓ.dx k dx k) = some (dictOf [] 0)
      rw [upd_self, upd_self, upd_self, upd_self]
      exact ⟨gx, gdx⟩
  · refine mk (fun j hj => ?_) ?_
    · obtain ⟨vs, n, q, r⟩ := H.lst j hj
      refine ⟨vs, n, ?_⟩
      show h'.get? (upd ℓ.la k l j) = some (W.listOf vs n) ∧ IntsAre vs.toList (upd su k [] j)
      rw [upd_ne _ _ (ne hj), upd_ne _ _ (ne hj)]
      refine ⟨n1 (fun e => ?_) q, r⟩
      rw [e, hoD] at q
      obtain ⟨_, _, hx, _⟩ := hD
      exact absurd (Value.type.inj (hx.1.symm.trans (congrArg Obj.cls (Option.some.inj q)))) (by decide)
    · refine ⟨#[], 0, ?_⟩
      show h'.get? (upd ℓ.la k l k) = some (W.listOf #[] 0) ∧ IntsAre (#[] : Array Value).toList (upd su k [] k)
      rw [upd_self, upd_self]
      exact ⟨gl, .nil⟩
  · obtain ⟨_, _, q, _⟩ := H.info j hj; exact ⟨_, q⟩
  · obtain ⟨_, _, q, _⟩ := H.lst j hj; exact ⟨_, q⟩
  · refine mk (fun j hj => ?_) ?_
    · show n₀ ≤ upd ℓ.ia k x j ∧ n₀ ≤ upd ℓ.la k l j ∧ n₀ ≤ upd ℓ.dx k dx j
      rw [upd_ne _ _ (ne hj), upd_ne _ _ (ne hj), upd_ne _ _ (ne hj)]
      exact H.lo.2.2.2 j hj
    · show n₀ ≤ upd ℓ.ia k x k ∧ n₀ ≤ upd ℓ.la k l k ∧ n₀ ≤ upd ℓ.dx k dx k
      rw [upd_self, upd_self, upd_self]
      exact ⟨bx, bl, bdx⟩
  · refine mk (fun j hj => ?_) ?_
    · show b ≠ upd ℓ.ia k x j; rw [upd_ne _ _ (ne hj)]; exact f.i j hj
    · show b ≠ upd ℓ.ia k x k; rw [upd_self]; rintro rfl; rw [fx] at e; cases e
  · refine mk (fun j hj => ?_) ?_
    · show b ≠ upd ℓ.la k l j; rw [upd_ne _ _ (ne hj)]; exact f.l j hj
    · show b ≠ upd ℓ.la k l k; rw [upd_self]; rintro rfl; rw [fl] at e; cases e
  · refine mk (fun j hj => ?_) ?_
    · show b ≠ upd ℓ.dx k dx j; rw [upd_ne _ _ (ne hj)]; exact f.x j hj
    · show b ≠ upd ℓ.dx k dx k; rw [upd_self]; rintro rfl; rw [fdx] at e; cases e
/-- one list of followers is set -/
theorem SrtH.setSu (H : SrtH prog w n₀ h S ℓ ord np su rdy po fi) {p : Int} {vs : Array Value} {n : Nat} {ns : List Int} (hp : p ∈ ord) {W : List Addr} (k : KpB W h h') (hW : ∀ a ∈ W, a = ℓ.la p ∨ Off S ℓ ord a)
    (ho : h'.get? (ℓ.la p) = some (PySem.W.listOf vs n)) (hv : IntsAre vs.toList ns) : SrtH prog w n₀ h' S ℓ ord np (upd su p ns) rdy po fi := by
  have nei {a : Addr} {o : Obj} (e : h.get? a = some o) (hc : o.cls ≠ .type "list") : a ≠ ℓ.la p := fun q => by
    obtain ⟨_, _, z, _⟩ := H.lst p hp
    rw [q, z] at e
    cases e
    exact hc rfl
  have no {a : Addr} (h1 : a ≠ ℓ.la p) (h2 : ¬ Off S ℓ ord a) : a ∉ W := fun q => (hW a q).elim h1 h2
  have dl : Value.type "dict" ≠ Value.type "list" := fun e => absurd (Value.type.inj e) (by decide)
  refine ⟨k _ _ (no (nei H.inst (by intro e; cases e)) fun z => z.s rfl) H.inst, ?_, ?_, fun j hj => ?_, fun j hj => ?_, H.ne, H.ia1, H.la1, H.sm, H.lo⟩
  · obtain ⟨a, b, c, d, e, f, g, q⟩ := H.dict
    exact ⟨a, b, c, d, e, f, g, k _ _ (no (nei q dl) fun z => z.d rfl) q⟩
  · obtain ⟨o, q, r⟩ := H.tab
    refine ⟨o, k _ _ (no (nei q ?_) fun z => z.n rfl) q, r⟩
    obtain ⟨_, _, hx, _⟩ := r
    rw [hx.1]; exact dl
  · obtain ⟨t', u', q, r⟩ := H.info j hj
    exact ⟨t', u', k _ _ (no (nei q (by intro e; cases e)) fun z => z.i j hj rfl) q, k _ _ (no (nei r dl) fun z => z.x j hj rfl) r⟩
  · obtain ⟨us, m, q, r⟩ := H.lst j hj
    by_cases e : j = p
    · subst e
      rw [upd_self]
      exact ⟨vs, n, ho, hv⟩
    · rw [upd_ne _ _ e]
      exact ⟨us, m, k _ _ (no (fun z => e (H.la1 j hj p hp z)) fun z => z.l j hj rfl) q, r⟩
end
end Mine
end
local macro_rules
  | `(tactic| walk_at "exec For Name Name cons nil") => `(tactic| refine Mine.halt ?_)
  | `(tactic| walk_at "exec For Name Attribute cons nil") => `(tactic| refine Mine.halt ?_)
  | `(tactic| walk_at "pyIter ref") => `(tactic| refine Mine.halt ?_)
  | `(tactic| walk_at "subscriptTail Name Slice ref ref") => `(tactic| refine Mine.halt ?_)
  | `(tactic| walk_at "binaryOp Add ref ref") => `(tactic| refine Mine.halt ?_)
  | `(tactic| walk_at "call builtin:list.pop") => `(tactic| refine Mine.halt ?_)
  | `(tactic| walk_at "truthy ref") => `(tactic| refine Mine.halt ?_)
  | `(tactic| walk_at "exec Try") => `(tactic| refine Mine.halt ?_)
  | `(tactic| walk_at "exec While Constant cons nil") => `(tactic| refine Mine.halt ?_)
  | `(tactic| walk_at "exec While Name cons cons") => `(tactic| refine Mine.halt ?_)
  | `(tactic| walk_at "eval ListComp") => `(tactic| refine Mine.halt ?_)
  | `(tactic| walk_at "call builtin:dict.values") => `(tactic| refine Mine.halt ?_)
  | `(tactic| walk_at "call builtin:sorted") => `(tactic| refine Mine.halt ?_)
  | `(tactic| walk_at "exec For Tuple Call cons nil") => `(tactic| refine Mine.halt ?_)
  | `(tactic| walk_at "exec For Tuple Name cons cons") => `(tactic| refine Mine.halt ?_)
  | `(tactic| walk_at "call type:enumerate") => `(tactic| refine Mine.halt ?_)
  | `(tactic| walk_at "call builtin:str.join") => `(tactic| refine Mine.halt ?_)
  | `(tactic| walk_at "subscriptTail Name Name ref int") => `(tactic| refine Mine.halt ?_)
  | `(tactic| walk_at "subscriptTail Name Constant ref int") => `(tactic| refine Mine.halt ?_)
  | `(tactic| walk_at "call builtin:sum") => `(tactic| refine Mine.halt ?_)
  | `(tactic| walk_at "call type:range") => `(tactic| refine Mine.halt ?_)
  | `(tactic| walk_at "call type:zip") => `(tactic| refine Mine.halt ?_)
  | `(tactic| walk_at "subscriptTail Subscript Constant ref int") => `(tactic| refine Mine.halt ?_)
  | `(tactic| walk_at "compareOp NotIn int ref") => `(tactic| refine Mine.halt ?_)
  | `(tactic| walk_at "compareOp Eq ref ref") => `(tactic| refine Mine.halt ?_)
  | `(tactic| walk_at "compareOp NotEq ref ref") => `(tactic| refine Mine.halt ?_)
  | `(tactic| walk_at "StarOf ref") => `(tactic| refine Mine.halt ?_)
section
open PySem PySem.W PyProof.Rows PySem.Calls PySem.Spec
set_option Elab.async false
set_option maxRecDepth 100000
set_option maxHeartbeats 4000000
namespace Mine
theorem fillK3 : (PySem.Challenge.rw_oc0253_01, Mine.hd.heap_1) = (PySem.Challenge.rw_oc0253_01, Mine.hd.heap_1) := by k_fill; rfl
theorem srtInit {prog : Program} {w : World} {n₀ : Nat} {A : Around} {s : Shared} {R : Result → Shared → Prop} (G : Gd w n₀ s.heap) (r : Rm A 3 20) (hs : n₀ ≤ s.heap.objs.size) {x dx : Addr}
    (hx : s.heap.get? x = some (instObj 164 dx)) (hdx : s.heap.get? dx = some (dictOf [] 0)) (b1 : n₀ ≤ x) (b2 : n₀ ≤ dx) (hne : (x : Nat) ≠ dx)
    (ret : ∀ h' tk' k0 k1 k2 k3 t1 t2 d o, KpB [x, dx] s.heap h' → h'.get? x = some (instObj 164 dx) → h'.get? dx = some (dictOf (srtD w k0 k1 k2 k3 (.ref d) .none (.int 0 t1) (.int 0 t2)) 4) → h'.get? d = some o → o.IsDictOf (intKind prog w) [] →
      (d == sysModules) = false → s.heap.get? d = none → (x : Nat) < d → R (.ok (.ret .none)) { s with heap := h', toks := tk' }) :
    codeAny (model prog w) A (.call (.ref 100) ⟨[.ref x], []⟩) R s := by
  w_on
  refine' start (K := Mine.hd.heap_1 w.params) [(x, instObj 164 dx), (dx, dictOf [] 0)] [(Str.ofString "self", .ref x), (Str.ofString "graph", .none)] (fun _ q => q) G hs ⟨⟨hx, b1⟩, ⟨hdx, b2⟩, trivial⟩ ?k4 ?k5 ?k6 ?k7 ?k8 ?_ ?c2 ?c3 ?c4 ?c5
  (case k4 => k_is)
  (case k5 => k_is)
  (case k6 => (have := r.hd; exact Mine.q30 this))
  (case k7 => (have X := G.X; exact binds_K X rfl (by k_is) rfl rfl rfl))
  (case k8 => exact locs rfl)
  (case c2 => exact rfl)
  (case c3 => exact rfl)
  (case c4 => exact rfl)
  (case c5 => decide)
  intro h₁ h₀ L tail mean mg mb B F N X T
  simp only [List.cons_append, List.nil_append] at N
  have ht1 := B.off x (.head _)
  have ht2 := B.off dx (.tail _ (.head _))
  have hne' := neN hne
  have TR := topRead_of T
  w_strict (
  k_steps
  (rename Fr _ _ _ _ => F9); (rename News _ _ _ _ => N9); (rename Obj.IsDictOf (intKind _ _) _ _ => hi9); (rename (_ == sysModules) = false => lo9); (rename _ ∧ _ ∧ AllLt _ _ => l19)
  exact ret _ _ _ _ _ _ _ _ _ _ (B.fin _ _ _ F9 N9 fun p hp => tl (tl (tl hp))) (N9.get (by k_mem)) (N9.get (by k_mem)) (N9.get (by k_mem)) hi9 lo9 (B.fresh _ (N9.fresh (by k_mem)) (show _ ∉ [x, dx] from nin2 (by exact Mine.q7 l19.1) (by exact Mine.q7 l19.2.1))) (ltN l19.1))
theorem isActive {prog : Program} {w : World} {n₀ : Nat} {A : Around} {s : Shared} {Q E : Value → Shared → Prop} (G : Gd w n₀ s.heap) (r : Rm A 3 10) (hs : n₀ ≤ s.heap.objs.size)
    {S : Addr} {ℓ : SL} {ord : List Int} {np : Int → Int} {su : Int → List Int} {po fi : Int} {R : Addr} {rs : Array Value} {rn : Nat} (H : SrtH prog w n₀ s.heap S ℓ ord np su (.ref R) po fi)
    (hR : s.heap.get? R = some (W.listOf rs rn)) (bR : n₀ ≤ R) (hz : (rs.size : Int) < 2 ^ 63)
    (ret : ∀ h' tk' b, b = (decide (fi < po) || !rs.isEmpty) → Kp s.heap h' → Q (.bool b) { s with heap := h', toks := tk' }) :
    wpAny (model prog w) A (call (.ref 133) [.ref S]) Q E s := by
  w_on
  refine wpAny_call ?_
  obtain ⟨k0, k1, k2, k3, t1, t2, dn, hdS⟩ := H.dict
  refine' start (K := Mine.hd.heap_1 w.params) [(S, instObj 164 ℓ.dS), (ℓ.dS, dictOf (srtD w k0 k1 k2 k3 (.ref ℓ.n2) (.ref R) (.int po t1) (.int fi t2)) dn), (R, W.listOf rs rn)] [(Str.ofString "self", .ref S)] (fun _ q => q) G hs ⟨⟨H.inst, H.lo.1⟩, ⟨hdS, H.lo.2.1⟩, ⟨hR, bR⟩, trivial⟩ ?k4 ?k5 ?k6 ?k7 ?k8 ?_ ?c2 ?c3 ?c4 ?c5
  (case k4 => k_is)
  (case k5 => k_is)
  (case k6 => (have := r.hd; exact Mine.q30 this))
  (case k7 => exact BindsTo.of_eq rfl)
  (case k8 => exact locs rfl)
  (case c2 => exact rfl)
  (case c3 => exact rfl)
  (case c4 => exact rfl)
  (case c5 => decide)
  intro h₁ h₀ L tail mean mg mb B F N X T
  simp only [List.cons_append, List.nil_append] at N
  have done : ∀ h' m', Fr h₀ L h' m' → News h₀ L h' ((S, instObj 164 ℓ.dS) :: (ℓ.dS, dictOf (srtD w k0 k1 k2 k3 (.ref ℓ.n2) (.ref R) (.int po t1) (.int fi t2)) dn) :: (R, W.listOf rs rn) :: tail) → Kp s.heap h' := fun h' m' F9 N9 =>
    ((B.fin _ _ _ F9 N9 fun p hp => tl (tl (tl hp))).less (all3 (.inr ⟨_, H.inst, N9.get (by k_mem)⟩) (.inr ⟨_, hdS, N9.get (by k_mem)⟩) (.inr ⟨_, hR, N9.get (by k_mem)⟩))).kp
  w_strict (
  k_steps
  · rename_i hlt
    exact ret _ _ _ (by rw [decide_eq_true hlt]; rfl) (done _ _ F N)
  · rename_i hlt
    (try refine bool_list (IsL.isList (N.get (by k_mem))) hz ?_)
    exact ret _ _ _ (by rw [decide_eq_false hlt]; rfl) (done _ _ F N))
end Mine
end
section
open PySem PySem.W PyProof.Rows PySem.Calls PySem.Spec
set_option Elab.async false
set_option maxRecDepth 100000
namespace Mine
theorem put_po {w : World} {k0 k1 k2 k3 : Tok} {n2 rd po fi v kv : Value} {n : Nat} {kh : Int} : (putL (Str.ofString "_npassedout") kh kv v (srtD w k0 k1 k2 k3 n2 rd po fi), putN (Str.ofString "_npassedout") (srtD w k0 k1 k2 k3 n2 rd po fi) n) = (srtD w k0 k1 k2 k3 n2 rd v fi, n) := by with_unfolding_all rfl
theorem put_fi {w : World} {k0 k1 k2 k3 : Tok} {n2 rd po fi v kv : Value} {n : Nat} {kh : Int} : (putL (Str.ofString "_nfinished") kh kv v (srtD w k0 k1 k2 k3 n2 rd po fi), putN (Str.ofString "_nfinished") (srtD w k0 k1 k2 k3 n2 rd po fi) n) = (srtD w k0 k1 k2 k3 n2 rd po v, n) := by with_unfolding_all rfl
theorem put_rd {w : World} {k0 k1 k2 k3 : Tok} {n2 rd po fi v kv : Value} {n : Nat} {kh : Int} : (putL (Str.ofString "_ready_nodes") kh kv v (srtD w k0 k1 k2 k3 n2 rd po fi), putN (Str.ofString "_ready_nodes") (srtD w k0 k1 k2 k3 n2 rd po fi) n) = (srtD w k0 k1 k2 k3 n2 v po fi, n) := by with_unfolding_all rfl
end Mine
end
section
open PySem PySem.W PyProof.Rows PySem.Calls PySem.Spec
set_option Elab.async false
set_option maxRecDepth 100000
set_option maxHeartbeats 4000000
namespace Mine
theorem bindV2 {fd : FuncData} {x y a : Arg} {dl : List PySem.Expr} {S K : Value} {vs : List Value} (hp : fd.params = ⟨[], [x, y], some a, [], [], none, dl⟩) (hd : fd.defaults = .none) (hxy : (y.arg == x.arg) = false) :
    bindArgs fd ⟨S :: K :: vs, []⟩ = newTuple vs >>= fun t => pure [(x.arg, S), (y.arg, K), (a.arg, t)] := by
  unfold bindArgs
  rw [hp, hd]
  simp [seqItems?, hxy, List.lookup]
  rfl
theorem bindV1 {fd : FuncData} {x a : Arg} {dl : List PySem.Expr} {S : Value} {vs : List Value} (hp : fd.params = ⟨[], [x], some a, [], [], none, dl⟩) (hd : fd.defaults = .none) :
    bindArgs fd ⟨S :: vs, []⟩ = newTuple vs >>= fun t => pure [(x.arg, S), (a.arg, t)] := by
  unfold bindArgs
  rw [hp, hd]
  simp [seqItems?, List.lookup]
  rfl
noncomputable abbrev tupOf (vs : List Value) : Obj := { cls := .type "tuple", data := .seq vs.toArray }
/-- a frame that has just been made: a ground and a ledger -/
theorem stdOf {w : World} {n₀ : Nat} {h h₁ : Heap} {L : Nat} {m : Str → Option Value} (W : List (Addr × Obj)) (G : Gd w n₀ h) (hs : n₀ ≤ h.objs.size) (kp : Kp h h₁) (hns : h₁.Ns L m) (hL : h.objs.size ≤ L)
    (hW : ∀ p ∈ W, h₁.get? p.1 = some p.2 ∧ p.1 ≠ L ∧ n₀ ≤ p.1) :
    ∃ h₀ tail mean mg mb, Std w n₀ h W h₀ L tail ∧ Fr h₀ L h₁ m ∧ News h₀ L h₁ (W ++ tail) ∧ (Mine.hd.heap_1 w.params).In h₀ ∧ Top V39 LO mean mg mb h₀ := by
  obtain ⟨h₀, tail, B⟩ := rebase W (G.keep kp) hns (Nat.le_trans hs hL) hW
  obtain ⟨mean, mg, mb, T⟩ := B.T
  refine ⟨h₀, tail, mean, mg, mb, ⟨fun x hx p hp e => B.off p hp (e ▸ hx), ?_, fun l hl hw => ?_, fun h' m' news' F N => ⟨?_, Nat.le_trans (Nat.le_trans hs hL) (Nat.le_of_lt F.ns.lt)⟩, Heap.get?_none_of_le hL, Nat.le_trans hs hL, hL⟩, B.fr, B.nw, B.X, T⟩
  · refine fun h' m' news' F N ht b o hb e => B.bk h' m' news' F N ht b o (fun q => ?_) (kp b o e)
    rcases List.mem_cons.mp q with rfl | q
    · exact absurd (Heap.lt_size e) (Nat.not_lt.mpr hL)
    · exact hb q
  · cases e : h.get? l with
    | none => rfl
    | some o => rw [B.hid l o (kp l o e) (Nat.lt_of_lt_of_le (Heap.lt_size e) hL) hw] at hl; cases hl
  · obtain ⟨g, q, k⟩ := G
    refine ⟨g, q, fun b o e => F.keep b o (B.hid b o (kp b o (k b o e)) (Nat.lt_of_lt_of_le (Heap.lt_size e) (Nat.le_trans q.size (Nat.le_trans hs hL))) fun hm => ?_)⟩
    obtain ⟨p, hp, rfl⟩ := List.mem_map.mp hm
    exact absurd (Heap.lt_size e) (Nat.not_lt.mpr (Nat.le_trans q.size (hW p hp).2.2))
section
variable {prog : Program} {w : World} {n₀ : Nat} {A : Around} {s : Shared} {R : Result → Shared → Prop} {name qual : Str} {params : Arguments} {body : List Stmt} {scope : Scope} {dV kV doc pm cdv ct oc : Value} {an od : Option Addr} {osl : Array (Option Value)} {f : Addr} {args : Args}
/-- as start, for a def that takes all further arguments as one tuple -/
theorem startV {K : Frag} (W : List (Addr × Obj)) (b0 : List (Str × Value)) (va : Str) (vs : List Value) (KX : ∀ h, (Mine.hd.heap_1 w.params).In h → K.In h) (G : Gd w n₀ s.heap) (hs : n₀ ≤ s.heap.objs.size) (hW : AllAt s.heap n₀ W)
    (ho : K.lookup f = some ⟨oc, od, .func (fnOf name qual params body scope dV kV doc pm an cdv ct), osl⟩) (hcd : codeIn K cdv qual = true) (hroom : A.depth < recursionLimit) (hvs : vs.length ≤ sizeLine)
    (hbind : bindArgs (fnOf name qual params body scope dV kV doc pm an cdv ct) args = newTuple vs >>= fun t => pure (b0 ++ [(va, t)])) (hloc : ∀ v, ∀ y ∈ b0 ++ [(va, v)], scope.names.lookup y.1 = some .local)
    (h : ∀ h₁ h₀ L tail mean mg mb (T : Addr), s.heap.get? T = none → n₀ ≤ T → Std w n₀ s.heap ((T, tupOf vs) :: W) h₀ L tail → Fr h₀ L h₁ (fun y => (b0 ++ [(va, Value.ref T)]).reverse.lookup y) → News h₀ L h₁ ((T, tupOf vs) :: W ++ tail) → K.In h₀ → Top V39 LO mean mg mb h₀ →
      wpAny (model prog w) (A.deeper (envOf qual scope L f cdv)) (execs body (envOf qual scope L f cdv))
        (fun fl s' => R (.ok (.ret (match fl with | .ret v => v | _ => .none))) s')
        (fun e s' => wpAny (model prog w) (A.deeper (envOf qual scope L f cdv)) (leaving (envOf qual scope L f cdv) e) (fun _ s'' => R (.error e) s'') (fun e' s'' => R (.error e') s'') s')
        { s with heap := h₁, toks := s.toks + (b0.length + 1) })
    (hco : scope.isCoroutine = false) (hgen : scope.isGenerator = false) (hk : scope.kind = .function)
    (hcell : ∀ x ∈ scope.names, x.2 ≠ .cell) : codeAny (model prog w) A (.call (.ref f) args) R s := by
  have X := KX _ G.X
  have kp0 : Kp s.heap (s.heap.push (tupOf vs)) := fun b o e => Heap.get?_push_of_some _ e
  have hnl := (G.keep kp0).nolimit
  refine codeAny_call_function (fd := fnOf name qual params body scope dV kV doc pm an cdv ct) hroom (X _ _ ho) rfl hco hgen rfl (codeRec_of X hcd) ?_
  rw [hbind]
  refine wpAny_bind (wpAny_newTuple (wpAny_pure ?_) hvs)
  refine wpAny_newFunctionEnv hcell (hloc _) (fun h₁ hns hsb => ⟨hnl.fresh _ hsb, codeAny_func ?_⟩) hk
  have kp1 : Kp (s.heap.push (tupOf vs)) h₁ := fun b o e => hsb.extBut b o (Nat.ne_of_lt (Heap.lt_size e)) (Heap.get?_push_of_some _ e)
  have hz : s.heap.objs.size ≤ (s.heap.push (tupOf vs)).objs.size := by rw [Heap.size_push]; exact Mine.q31
  have hT : s.heap.objs.size ≠ (s.heap.push (tupOf vs)).objs.size := by rw [Heap.size_push]; exact Mine.q32
  obtain ⟨h₀, tail, mean, mg, mb, B, F, N, X', T⟩ := stdOf ((s.heap.objs.size, tupOf vs) :: W) G hs (kp0.trans kp1) hns hz (fun p hp => by
    rcases List.mem_cons.mp hp with rfl | hp
    · exact ⟨kp1 _ _ (Heap.get?_push_size _ rfl), hT, hs⟩
    · exact ⟨kp1 _ _ (kp0 _ _ (hW.mem p hp).1), Nat.ne_of_lt (Nat.lt_of_lt_of_le (Heap.lt_size (hW.mem p hp).1) hz), (hW.mem p hp).2⟩)
  have := h h₁ h₀ _ tail mean mg mb _ (Heap.get?_none_of_le (Nat.le_refl _)) hs B F N (KX _ X') T
  rw [show b0.length + 1 = (b0 ++ [(va, Value.ref s.heap.objs.size)]).length by simp] at this
  exact this
end
end Mine
end
section
open PySem PySem.W PyProof.Rows PySem.Calls PySem.Spec
set_option Elab.async false
set_option maxRecDepth 100000
set_option maxHeartbeats 4000000
namespace Mine
/-- forW with the ends as letters: the terms of a walk stay small -/
theorem forQ {prog : Program} {w : World} {A : Around} {s₂ : Shared} {env : Env} {R : Result → Shared → Prop} {x : Str} {px : Pos} {body : List Stmt} {I : Addr} {fp wr : List Addr} {n : Nat} {P : Nat → Value → Prop} {St : Nat → Heap → Prop} {m : Str → Option Value}
    (J : Nat → (Str → Option Value) → Heap → Prop) (W : Walks prog w A I fp wr n P St) (hx : env.kindOf x = some .local) (hp : (env.scope.kind == .class || (env.scope.kind == .module && env.locals != env.globals)) = false)
    (hL : env.locals ∉ fp) (st : St 0 s₂.heap) (hn : s₂.heap.Ns env.locals m) (j : J 0 m s₂.heap)
    (turn : ∀ (PT : Flow → Shared → Prop) (PE : Value → Shared → Prop) i v m h h₂ tk, (∀ f s₃, Turned s₂ env.locals St J i f s₃ → PT f s₃) → i < n → P i v → J i m h → KpB (env.locals :: wr) h h₂ → h₂.Ns env.locals (fun y => if y = x then some v else m y) → St (i + 1) h₂ →
      wpAny (model prog w) A (execs body env) PT PE { s₂ with heap := h₂, toks := tk })
    (done : ∀ m h h' tk, J n m h → KpB wr h h' → h'.Ns env.locals m → R (.ok .next) { s₂ with heap := h', toks := tk }) :
    codeAny (model prog w) A (.forLoop (.Name x px) (.ref I) body [] env) R s₂ :=
  forW J W hx hp hL st hn j (fun i v m h h₂ tk a b c d e f => turn _ _ i v m h h₂ tk (fun _ _ q => q) a b c d e f) done
section
variable {prog : Program} {w : World} {n₀ : Nat} {A : Around} {s : Shared} {R : Result → Shared → Prop} {name qual : Str} {params : Arguments} {body : List Stmt} {scope : Scope} {dV kV doc pm cdv ct oc : Value} {an od : Option Addr} {osl : Array (Option Value)} {f : Addr} {args : Args} {d u : Nat}
theorem startQ {K : Frag} (W : List (Addr × Obj)) (binds : List (Str × Value)) (r : Rm A (d + 1) (u + 3)) (KX : ∀ h, (Mine.hd.heap_1 w.params).In h → K.In h) (G : Gd w n₀ s.heap) (hs : n₀ ≤ s.heap.objs.size) (hW : AllAt s.heap n₀ W)
    (ho : K.lookup f = some ⟨oc, od, .func (fnOf name qual params body scope dV kV doc pm an cdv ct), osl⟩) (hcd : codeIn K cdv qual = true)
    (hbind : BindsTo s (fnOf name qual params body scope dV kV doc pm an cdv ct) args binds) (hloc : ∀ y ∈ binds, scope.names.lookup y.1 = some .local)
    (h : ∀ (A' : Around) (PQ : Flow → Shared → Prop) (PE : Value → Shared → Prop), Rm A' d u → (∀ v s', R (.ok (.ret v)) s' → PQ (.ret v) s') → (∀ s', R (.ok (.ret .none)) s' → PQ .next s') →
      ∀ h₁ h₀ L tail mean mg mb tk, Std w n₀ s.heap W h₀ L tail → Fr h₀ L h₁ (fun y => binds.reverse.lookup y) → News h₀ L h₁ (W ++ tail) → K.In h₀ → Top V39 LO mean mg mb h₀ →
      wpAny (model prog w) A' (execs body (envOf qual scope L f cdv)) PQ PE { s with heap := h₁, toks := tk })
    (hco : scope.isCoroutine = false) (hgen : scope.isGenerator = false) (hk : scope.kind = .function)
    (hcell : ∀ x ∈ scope.names, x.2 ≠ .cell) : codeAny (model prog w) A (.call (.ref f) args) R s :=
  start W binds KX G hs hW ho hcd (by have := r.hd; exact Mine.q33 this) hbind hloc (fun h₁ h₀ L tail mean mg mb B F N X T => h _ _ _ r.deeper (fun _ _ q => q) (fun _ q => q) h₁ h₀ L tail mean mg mb _ B F N X T) hco hgen hk hcell
theorem startVQ {K : Frag} (W : List (Addr × Obj)) (b0 : List (Str × Value)) (va : Str) (vs : List Value) (r : Rm A (d + 1) (u + 3)) (KX : ∀ h, (Mine.hd.heap_1 w.params).In h → K.In h) (G : Gd w n₀ s.heap) (hs : n₀ ≤ s.heap.objs.size) (hW : AllAt s.heap n₀ W)
    (ho : K.lookup f = some ⟨oc, od, .func (fnOf name qual params body scope dV kV doc pm an cdv ct), osl⟩) (hcd : codeIn K cdv qual = true) (hvs : vs.length ≤ sizeLine)
    (hbind : bindArgs (fnOf name qual params body scope dV kV doc pm an cdv ct) args = newTuple vs >>= fun t => pure (b0 ++ [(va, t)])) (hloc : ∀ v, ∀ y ∈ b0 ++ [(va, v)], scope.names.lookup y.1 = some .local)
    (h : ∀ (A' : Around) (PQ : Flow → Shared → Prop) (PE : Value → Shared → Prop), Rm A' d u → (∀ v s', R (.ok (.ret v)) s' → PQ (.ret v) s') → (∀ s', R (.ok (.ret .none)) s' → PQ .next s') →
      ∀ h₁ h₀ L tail mean mg mb tk (T : Addr), s.heap.get? T = none → n₀ ≤ T → Std w n₀ s.heap ((T, tupOf vs) :: W) h₀ L tail → Fr h₀ L h₁ (fun y => (b0 ++ [(va, Value.ref T)]).reverse.lookup y) → News h₀ L h₁ ((T, tupOf vs) :: W ++ tail) → K.In h₀ → Top V39 LO mean mg mb h₀ →
      wpAny (model prog w) A' (execs body (envOf qual scope L f cdv)) PQ PE { s with heap := h₁, toks := tk })
    (hco : scope.isCoroutine = false) (hgen : scope.isGenerator = false) (hk : scope.kind = .function)
    (hcell : ∀ x ∈ scope.names, x.2 ≠ .cell) : codeAny (model prog w) A (.call (.ref f) args) R s :=
  startV W b0 va vs KX G hs hW ho hcd (by have := r.hd; exact Mine.q33 this) hvs hbind hloc (fun h₁ h₀ L tail mean mg mb T a b B F N X TT => h _ _ _ r.deeper (fun _ _ q => q) (fun _ q => q) h₁ h₀ L tail mean mg mb _ T a b B F N X TT) hco hgen hk hcell
end
end Mine
end
section
open PySem PySem.W PyProof.Rows PySem.Calls PySem.Spec
set_option Elab.async false
set_option maxRecDepth 100000
set_option maxHeartbeats 4000000
namespace Mine
theorem fillK4 : (PySem.Challenge.rw_oc0253_01, Mine.hd.heap_1) = (PySem.Challenge.rw_oc0253_01, Mine.hd.heap_1) := by k_fill; rfl
theorem named {m : Str → Option Value} {x : Str} {v : Value} (h : m x = some v) : m = fun y => if y = x then some v else m y := funext fun y => by
  by_cases e : y = x
  · rw [if_pos e, e]; exact h
  · rw [if_neg e]
theorem getReady {prog : Program} {w : World} {n₀ : Nat} {A : Around} {s : Shared} {Q E : Value → Shared → Prop} (G : Gd w n₀ s.heap) (r : Rm A 3 10) (hs : n₀ ≤ s.heap.objs.size)
    {S : Addr} {ℓ : SL} {ord : List Int} {np : Int → Int} {su : Int → List Int} {po fi : Int} {R : Addr} {rs : Array Value} {rn : Nat} {rdy : List Int} (H : SrtH prog w n₀ s.heap S ℓ ord np su (.ref R) po fi)
    (hR : s.heap.get? R = some (W.listOf rs rn)) (hrs : IntsAre rs.toList rdy) (bR : n₀ ≤ R) (hz : rs.size ≤ 1000) (hin : ∀ p ∈ rdy, p ∈ ord) (oR : Off S ℓ ord R)
    (ret : ∀ h' tk T n', KpB (ℓ.dS :: R :: rdy.map ℓ.ia) s.heap h' → Gd w n₀ h' ∧ n₀ ≤ h'.objs.size → SrtH prog w n₀ h' S ℓ ord (markOut np rdy) su (.ref R) (po + rs.size) fi → h'.get? R = some (W.listOf #[] n') →
      h'.get? T = some { cls := .type "tuple", data := .seq rs } → n₀ ≤ T → s.heap.get? T = none → Q (.ref T) { s with heap := h', toks := tk }) :
    wpAny (model prog w) A (call (.ref 126) [.ref S]) Q E s := by
  w_on
  refine wpAny_call ?_
  obtain ⟨k0, k1, k2, k3, t1, t2, dn, hdS⟩ := H.dict
  refine' startQ (K := Mine.hd.heap_1 w.params) [(S, instObj 164 ℓ.dS), (ℓ.dS, dictOf (srtD w k0 k1 k2 k3 (.ref ℓ.n2) (.ref R) (.int po t1) (.int fi t2)) dn), (R, W.listOf rs rn)] [(Str.ofString "self", .ref S)] (d := 2) (u := 7) r (fun _ q => q) G hs ⟨⟨H.inst, H.lo.1⟩, ⟨hdS, H.lo.2.1⟩, ⟨hR, bR⟩, trivial⟩ ?k4 ?k5 ?k7 ?k8 ?_ ?c2 ?c3 ?c4 ?c5
  (case k4 => k_is)
  (case k5 => k_is)
  (case k7 => exact BindsTo.of_eq rfl)
  (case k8 => exact locs rfl)
  (case c2 => exact rfl)
  (case c3 => exact rfl)
  (case c4 => exact rfl)
  (case c5 => decide)
  intro A' PQ PE rA hQ1 hQ2 h₁ h₀ L tail mean mg mb tk0 B F N X T
  simp only [List.cons_append, List.nil_append] at N
  have TR := topRead_of T
  w_strict (
  k_steps
  refine call_tuple_list (IsL.isList (N.get (by k_mem))) (fun h2 hk2 => ?_) (by rw [sizeLine_eq]; exact Mine.q34 hz)
  have F2 := (Fr.keeps F hk2).push { cls := .type "tuple", data := .seq rs }
  have N2 := News.push (Fr.keeps F hk2) (News.grown N hk2) { cls := .type "tuple", data := .seq rs }
  have oT := Off.none H (B.fresh _ (N2 _ (.head _)).2.2 (nin3 (Nat.ne_of_gt (Heap.lt_size ((News.grown N hk2).get (by k_mem : (S, _) ∈ _)))) (Nat.ne_of_gt (Heap.lt_size ((News.grown N hk2).get (by k_mem : (ℓ.dS, _) ∈ _)))) (Nat.ne_of_gt (Heap.lt_size ((News.grown N hk2).get (by k_mem : (R, _) ∈ _))))))
  have bT := (B.gd _ _ _ (Fr.keeps F hk2) (News.grown N hk2)).2
  clear F N
  k_steps
  (rename Fr _ _ _ _ => F5); (rename News _ _ _ _ => N5)
  rename_i h5
  refine wpAny_For ?_
  refine nameX_L F5 rfl ?_ rfl rfl
  have ht5 := N5.get (.head _)
  refine wpAny_pyIter_tuple ⟨_, ht5, rfl, _, rfl⟩ ?_
  obtain ⟨m5, F6, e1, e2, e3⟩ : ∃ m5, Fr h₀ L _ m5 ∧ m5 (Str.ofString "n2i") = some (.ref ℓ.n2) ∧ m5 (Str.ofString "self") = some (.ref S) ∧ m5 (Str.ofString "result") = some (.ref h2.objs.size) := ⟨_, F5.push { cls := .type "tuple_iterator", data := .fields #[.ref h2.objs.size, .int 0 0] }, rfl, rfl, rfl⟩
  have N6 := News.push F5 N5 { cls := .type "tuple_iterator", data := .fields #[.ref h2.objs.size, .int 0 0] }
  obtain ⟨G6, hs6⟩ := B.gd _ _ _ F6 N6
  have H6 : SrtH prog w n₀ _ S ℓ ord np su (.ref R) po fi := H.keep ((B.fin _ _ _ F6 N6 fun p hp => tl (tl (tl (tl (tl hp))))).less (W' := []) (all3 (.inr ⟨_, H.inst, N6.get (by k_mem)⟩) (.inr ⟨_, hdS, N6.get (by k_mem)⟩) (.inr ⟨_, hR, N6.get (by k_mem)⟩))) (fun a ha => absurd ha List.not_mem_nil)
  refine forQ (fun i m h => (∀ y, y ≠ Str.ofString "node" → m y = m5 y) ∧ KpB (L :: h5.objs.size :: (rdy.take i).map ℓ.ia) (h5.push { cls := .type "tuple_iterator", data := .fields #[.ref h2.objs.size, .int 0 0] }) h ∧ SrtH prog w n₀ h S ℓ ord (markOut np (rdy.take i)) su (.ref R) po fi) (Walks.tuple (A := A') rA.hh _ _ (Nat.ne_of_lt (Heap.lt_size ht5)) rs) rfl rfl ?_ ?_ F6.ns ?_ ?_ ?_
  · exact nin2 (Nat.ne_of_lt F5.ns.lt) (Ne.symm (N5 _ (.head _)).2.1)
  · exact ⟨⟨_, Heap.get?_push_size _ rfl, rfl, rfl⟩, ⟨_, Heap.get?_push_of_some _ ht5, rfl, _, rfl⟩⟩
  · exact ⟨fun _ _ => rfl, fun b o _ e => e, (show markOut np [] = np from funext fun p => if_neg List.not_mem_nil) ▸ H6⟩
  · rintro PT PE7 i v m h hh tk2 hPT hi hv ⟨jm, jk, jH⟩ kb hn2 st
    have em : m = fun y => if y = Str.ofString "n2i" then some (.ref ℓ.n2) else m y := named ((jm _ (by decide)).trans e1)
    rw [em] at hn2
    have hlen := hrs.length
    obtain ⟨p, hp⟩ : ∃ p, rdy[i]? = some p := ⟨_, List.getElem?_eq_getElem (by rw [← hlen, Array.length_toList]; exact hi)⟩
    obtain ⟨t, ht⟩ := hrs.get i p hp
    obtain rfl : v = .int p t := by
      rw [Array.getElem?_toList] at ht
      exact Option.some.inj (hv.symm.trans ht)
    have hpo : p ∈ ord := hin p (List.mem_of_getElem? hp)
    have oL := Off.none H B.lf
    have bI := (B.gd _ _ _ F5 N5).2
    have oI := Off.none H (a := h5.objs.size) (B.fresh _ (N6 _ (.head _)).2.2 (nin3 (Nat.ne_of_gt (Heap.lt_size (N5.get (by k_mem : (S, _) ∈ _)))) (Nat.ne_of_gt (Heap.lt_size (N5.get (by k_mem : (ℓ.dS, _) ∈ _)))) (Nat.ne_of_gt (Heap.lt_size (N5.get (by k_mem : (R, _) ∈ _))))))
    have nLT := (N5 _ (.head _)).2.1
    have nLI := Nat.ne_of_lt F5.ns.lt
    have H7 := jH.keep kb (cons9 oL (cons9 oI fun _ z => absurd z List.not_mem_nil))
    have G7 : Gd w n₀ hh := (G6.keepB jk (cons9 B.ln (cons9 bI fun a ha => by obtain ⟨q, hq, rfl⟩ := List.mem_map.mp ha; exact (H.lo.2.2.2 q (hin q (List.mem_of_mem_take hq))).1))).keepB kb (al2 B.ln bI)
    obtain ⟨ti, ui, gi, gx⟩ := H7.info p hpo
    obtain ⟨oD, hoD, hD⟩ := H7.tab
    obtain ⟨lo1, lo2, lo3, lo4⟩ := H7.lo
    refine rebaseK [(ℓ.n2, oD), (ℓ.ia p, niObj (ℓ.dx p) p ti (markOut np (rdy.take i) p) ui (ℓ.la p)), (ℓ.dx p, dictOf [] 0)] G7 hn2 B.ln (al3 ⟨hoD, oL.n.symm, lo3⟩ ⟨gi, (oL.i p hpo).symm, (lo4 p hpo).1⟩ ⟨gx, (oL.x p hpo).symm, (lo4 p hpo).2.2⟩) fun h₀' tail' F8 N8 off8 lt8 X8 mean8 mg8 mb8 T8 hid8 bk8 => ?_
    simp only [List.cons_append, List.nil_append] at N8
    clear F5 N5 F6 N6 X T TR
    have TR8 := topRead_of T8
    obtain ⟨n31, n32, n33⟩ := H7.ne3 hpo
    have hne1 := neN n31
    have hne2 := neN n32
    have hne3 := neN n33
    have ht1 : ∀ q ∈ tail', q.1 ≠ ℓ.ia p := fun q hq e => off8 q hq (e ▸ .tail _ (.head _))
    k_steps
    refine kd_tail (by assumption) (by k_mem) hD (by rw [valueAt_map, if_pos hpo]) ?_
    k_steps
    (rename Fr _ _ _ _ => F9); (rename News _ _ _ _ => N9)
    have c := (bk8 _ _ _ F9 N9 fun q hq => tl (tl (tl hq))).less (W' := [L, ℓ.ia p]) (al4 (.inl (.head _)) (.inr ⟨_, hoD, N9.get (by k_mem)⟩) (.inl (.tail _ (.head _))) (.inr ⟨_, gx, N9.get (by k_mem)⟩))
    exact hPT _ _ ⟨.inl rfl, _, _, _, rfl, F9.ns, ⟨st.1.at fun o e => c _ o (nin2 nLI.symm (oI.i p hpo)) e, st.2.at fun o e => c _ o (nin2 nLT (oT.i p hpo)) e⟩,
      fun y hy => (if_neg hy).trans ((congrFun em y).symm.trans (jm y hy)), kp_turn jk kb c (take_map hp).1 (take_map hp).2, mark_take hp ▸ H7.setNp hpo c (al2 (.inr oL) (.inl rfl)) (N9.get (.tail _ (.head _)))⟩
  · rintro m h hh tk2 ⟨jm, jk, jH⟩ kb hn2
    have em : m = fun y => if y = Str.ofString "result" then some (.ref h2.objs.size) else if y = Str.ofString "self" then some (.ref S) else m y := (named ((jm _ (by decide)).trans e3)).trans (congrArg (fun f : Str → Option Value => fun y => if y = Str.ofString "result" then some (.ref h2.objs.size) else f y) (named ((jm _ (by decide)).trans e2)))
    rw [em] at hn2
    have oL := Off.none H B.lf
    have bI := (B.gd _ _ _ F5 N5).2
    have oI := Off.none H (a := h5.objs.size) (B.fresh _ (N6 _ (.head _)).2.2 (nin3 (Nat.ne_of_gt (Heap.lt_size (N5.get (by k_mem : (S, _) ∈ _)))) (Nat.ne_of_gt (Heap.lt_size (N5.get (by k_mem : (ℓ.dS, _) ∈ _)))) (Nat.ne_of_gt (Heap.lt_size (N5.get (by k_mem : (R, _) ∈ _))))))
    have H7 := jH.keep kb (List.forall_mem_singleton.mpr oI)
    have G7 : Gd w n₀ hh := (G6.keepB jk (cons9 B.ln (cons9 bI fun a ha => by obtain ⟨q, hq, rfl⟩ := List.mem_map.mp ha; exact (H.lo.2.2.2 q (hin q (List.mem_of_mem_take hq))).1))).keepB kb (List.forall_mem_singleton.mpr bI)
    have jk7 := jk.trans' (U := L :: h5.objs.size :: (rdy.take rs.size).map ℓ.ia) kb (fun _ z => z) (List.forall_mem_singleton.mpr (.tail _ (.head _)))
    have nLR := (N6 _ (by k_mem : (R, _) ∈ _)).2.1
    have nIR := Nat.ne_of_lt (Heap.lt_size (N5.get (by k_mem : (R, _) ∈ _)))
    have nLT := (N5 _ (.head _)).2.1
    have nIT := Nat.ne_of_lt (Heap.lt_size ht5)
    have noff {a : Addr} (o1 : Off S ℓ ord a) (h1 : a ≠ L) (h2 : a ≠ h5.objs.size) : a ∉ L :: h5.objs.size :: (rdy.take rs.size).map ℓ.ia := fun q => by
      rcases List.mem_cons.mp q with q | q
      · exact h1 q
      · rcases List.mem_cons.mp q with q | q
        · exact h2 q
        · obtain ⟨x, hx, e⟩ := List.mem_map.mp q
          exact o1.i x (hin x (List.mem_of_mem_take hx)) e.symm
    have gR : hh.get? R = some (W.listOf rs rn) := jk7 _ _ (noff oR nLR nIR) (N6.get (by k_mem))
    have gT : hh.get? h2.objs.size = some { cls := .type "tuple", data := .seq rs } := jk7 _ _ (noff oT nLT nIT) (N6.get (.tail _ (.head _)))
    have nTR : h2.objs.size ≠ R := fun e => by rw [e, gR] at gT; exact absurd (Value.type.inj (congrArg Obj.cls (Option.some.inj gT))) (by decide)
    have kall := (B.fin _ _ _ F6 N6 fun p hp => tl (tl (tl (tl (tl hp))))).less (W' := []) (all3 (.inr ⟨_, H.inst, N6.get (by k_mem)⟩) (.inr ⟨_, hdS, N6.get (by k_mem)⟩) (.inr ⟨_, hR, N6.get (by k_mem)⟩))
    have fT := B.fresh _ (N6 _ (.tail _ (.head _))).2.2 (nin3 oT.s oT.d nTR)
    have fI := B.fresh _ (N6 _ (.head _)).2.2 (nin3 oI.s oI.d (fun e => nIR e.symm))
    obtain ⟨k0, k1, k2, k3, t1, t2, dn, hdS⟩ := H7.dict
    obtain ⟨lo1, lo2, lo3, lo4⟩ := H7.lo
    refine rebaseK [(S, instObj 164 ℓ.dS), (ℓ.dS, dictOf (srtD w k0 k1 k2 k3 (.ref ℓ.n2) (.ref R) (.int po t1) (.int fi t2)) dn), (R, W.listOf rs rn), (h2.objs.size, { cls := .type "tuple", data := .seq rs })] G7 hn2 B.ln (al4 ⟨H7.inst, oL.s.symm, lo1⟩ ⟨hdS, oL.d.symm, lo2⟩ ⟨gR, nLR, bR⟩ ⟨gT, nLT, bT⟩) fun h₀' tail' F8 N8 off8 lt8 X8 mean8 mg8 mb8 T8 hid8 bk8 => ?_
    simp only [List.cons_append, List.nil_append] at N8
    clear F5 N5 F6 N6 X T TR
    have TR8 := topRead_of T8
    have tl1 : ∀ q ∈ tail', q.1 ≠ R := fun q hq e => off8 q hq (e ▸ .tail _ (.tail _ (.head _)))
    have tl2 : ∀ q ∈ tail', q.1 ≠ ℓ.dS := fun q hq e => off8 q hq (e ▸ .tail _ (.head _))
    have tl3 : ∀ q ∈ tail', q.1 ≠ S := fun q hq e => off8 q hq (e ▸ .head _)
    have ne1 := neN H7.neSd
    have ne2 := neN oR.s.symm
    have ne3 := neN oR.d
    have ne4 := neN oT.s
    have ne5 := neN oT.d
    have ne6 := neN nTR
    k_steps
    refine' kl_clear (rs := rs) (rn := rn) ?F ?N ?U ?z ?_
    (case F => assumption)
    (case N => assumption)
    (case U => k_updF)
    (case z => (rw [sizeLine_eq]; exact Mine.q34 hz))
    intro h9 n9 F9 N9
    (try dsimp only at N9)
    clear F8 N8
    k_steps
    refine' set_dict ?k1 ?k2 ?k3 ?k4 ?k5 ?k6 ?k7 ?k8 ?k9 ?k10 ?k11 ?k12 ?k13 ?_
    (case k1 => k_asm)
    (case k2 => k_asm)
    (case k3 => k_asm)
    (case k4 => k_inst)
    (case k5 => exact rfl)
    (case k6 => k_is)
    (case k7 => k_is)
    (case k8 => k_is)
    (case k9 => k_is)
    (case k10 => k_get)
    (case k11 => exact put_po)
    (case k12 => k_upd)
    (case k13 => exact Nat.le_of_ble_eq_true rfl)
    k_whole
    intro h10 F10 N10
    dsimp only at N10 ⊢
    clear F9 N9
    k_steps
    have c := (bk8 _ _ _ F10 N10 fun q hq => tl (tl (tl (tl hq)))).less (W' := [L, ℓ.dS, R]) (List.forall_mem_cons.mpr ⟨.inl (.head _), al4 (.inr ⟨_, H7.inst, N10.get (by k_mem)⟩) (.inl (.tail _ (.head _))) (.inl (.tail _ (.tail _ (.head _)))) (.inr ⟨_, gT, N10.get (by k_mem)⟩)⟩)
    have etk : rdy.take rs.size = rdy := List.take_of_length_le (by rw [← hrs.length, Array.length_toList]; exact Nat.le_refl _)
    rw [etk] at jk7 H7
    have G10 := G7.keepB c (al3 B.ln lo2 bR)
    refine hQ1 _ _ (ret _ _ _ n9 ?_ ⟨G10, Nat.le_trans B.ln (Nat.le_of_lt F10.ns.lt)⟩ (H7.setD c (al3 (.inr oL) (.inl rfl) (.inr oR)) ⟨_, _, _, _, _, _, _, N10.get (by k_mem)⟩) (N10.get (by k_mem)) (N10.get (by k_mem)) bT fT)
    refine KpB.fresh (W := L :: h5.objs.size :: ℓ.dS :: R :: rdy.map ℓ.ia) ((kall.trans' jk7 (fun _ z => absurd z List.not_mem_nil) ?_).trans' c (fun _ z => z) (al3 (.head _) (tl (tl (.head _))) (tl (tl (tl (.head _)))))) (cons9 (.inr B.lf) (cons9 (.inr fI) fun a ha => .inl ha))
    exact cons9 (.head _) (cons9 (tl (.head _)) fun a ha => tl (tl (tl (tl ha)))))
end Mine
end
section
open PySem PySem.W PyProof.Rows PySem.Calls PySem.Spec
set_option Elab.async false
set_option maxRecDepth 100000
set_option maxHeartbeats 4000000
namespace Mine
theorem fillK5 : (PySem.Challenge.rw_oc0253_01, Mine.hd.heap_1) = (PySem.Challenge.rw_oc0253_01, Mine.hd.heap_1) := by k_fill; rfl
/-- what a sorter is told: its nodes, how many each waits for, who waits for each -/
structure GS where
  ord : List Int
  np : Int → Int
  su : Int → List Int
noncomputable def gAdd (g : GS) (k : Int) : GS := if k ∈ g.ord then g else ⟨g.ord ++ [k], upd g.np k 0, upd g.su k []⟩
noncomputable def gPre (k : Int) (g : GS) (p : Int) : GS := ⟨(gAdd g p).ord, (gAdd g p).np, upd (gAdd g p).su p ((gAdd g p).su p ++ [k])⟩
noncomputable def gNp (g : GS) (k : Int) (n : Nat) : GS := ⟨g.ord, upd g.np k (g.np k + n), g.su⟩
noncomputable def gNode (g : GS) (k : Int) (ps : List Int) : GS := ps.foldl (gPre k) (gNp (gAdd g k) k ps.length)
noncomputable abbrev SrtG (prog : Program) (w : World) (n₀ : Nat) (h : Heap) (S : Addr) (ℓ : SL) (g : GS) (rdy : Value) (po fi : Int) : Prop := SrtH prog w n₀ h S ℓ g.ord g.np g.su rdy po fi
theorem gAdd_mem (g : GS) (k : Int) : k ∈ (gAdd g k).ord := by
  unfold gAdd
  split
  · assumption
  · exact List.mem_append_right _ (.head _)
theorem gAdd_len (g : GS) (k : Int) : (gAdd g k).ord.length ≤ g.ord.length + 1 := by
  unfold gAdd
  split
  · exact Mine.q31
  · rw [List.length_append]; exact Nat.le_refl _
theorem kp_same {W : List Addr} {h h' : Heap} (k : KpB W h h') (hs : ∀ a ∈ W, h.get? a = none ∨ ∃ o, h.get? a = some o ∧ h'.get? a = some o) : Kp h h' := fun b o e => by
  by_cases hb : b ∈ W
  · rcases hs b hb with q | ⟨o', q, r⟩
    · rw [q] at e; cases e
    · rw [q] at e; cases e; exact r
  · exact k b o hb e
theorem SrtH.keepK {prog : Program} {w : World} {n₀ : Nat} {h h' : Heap} {S : Addr} {ℓ : SL} {ord : List Int} {np : Int → Int} {su : Int → List Int} {rdy : Value} {po fi : Int} (H : SrtH prog w n₀ h S ℓ ord np su rdy po fi) (k : Kp h h') : SrtH prog w n₀ h' S ℓ ord np su rdy po fi :=
  H.keep (W := []) k.b fun _ z => absurd z List.not_mem_nil
noncomputable def SuB (g : GS) (M : Nat) : Prop := ∀ p ∈ g.ord, (g.su p).length ≤ M
theorem SuB.add {g : GS} {M : Nat} (h : SuB g M) (k : Int) : SuB (gAdd g k) M := by
  unfold gAdd
  split
  · exact h
  · intro p hp
    show (upd g.su k [] p).length ≤ M
    by_cases e : p = k
    · rw [e, upd_self]; exact Nat.zero_le _
    · rw [upd_ne _ _ e]
      exact h p ((List.mem_append.mp hp).resolve_right fun q => e (List.mem_singleton.mp q))
theorem SuB.pre {g : GS} {M : Nat} (h : SuB g M) (k q : Int) : SuB (gPre k g q) (M + 1) := fun p hp => by
  have h1 := h.add q
  show (upd (gAdd g q).su q ((gAdd g q).su q ++ [k]) p).length ≤ M + 1
  by_cases e : p = q
  · rw [e, upd_self, List.length_append]; exact Nat.succ_le_succ (h1 q (gAdd_mem g q))
  · rw [upd_ne _ _ e]; exact Nat.le_succ_of_le (h1 p hp)
theorem SuB.all {g : GS} {M : Nat} (h : SuB g M) (k : Int) : ∀ ps : List Int, SuB (ps.foldl (gPre k) g) (M + ps.length)
  | [] => h
  | p :: ps => by
    have := SuB.all (h.pre k p) k ps
    rw [List.length_cons, show M + (ps.length + 1) = M + 1 + ps.length by exact Mine.q35]
    exact this
theorem gAll_len (k : Int) : ∀ (ps : List Int) (g : GS), (ps.foldl (gPre k) g).ord.length ≤ g.ord.length + ps.length
  | [], g => Nat.le_refl _
  | p :: ps, g => by
    have h1 := gAll_len k ps (gPre k g p)
    have h2 : (gPre k g p).ord.length ≤ g.ord.length + 1 := gAdd_len g p
    show (ps.foldl (gPre k) (gPre k g p)).ord.length ≤ _
    rw [List.length_cons]; exact Mine.q36 h1 h2
theorem fold_take {ps : List Int} {i : Nat} {p : Int} (hp : ps[i]? = some p) (k : Int) (g : GS) : (ps.take (i + 1)).foldl (gPre k) g = gPre k ((ps.take i).foldl (gPre k) g) p := by
  rw [List.take_add_one, hp]
  exact List.foldl_append ..
theorem take_len {ps : List Int} {i : Nat} (k : Int) (g : GS) (hi : i ≤ ps.length) : ((ps.take i).foldl (gPre k) g).ord.length ≤ g.ord.length + ps.length := by
  have := gAll_len k (ps.take i) g
  rw [List.length_take] at this; exact Mine.q37 this
theorem getInfo2 {prog : Program} {w : World} {n₀ : Nat} {A : Around} {s : Shared} {Q E : Value → Shared → Prop} (G : Gd w n₀ s.heap) (r : Rm A 6 50)
    {S : Addr} {ℓ : SL} {g : GS} {rdy : Value} {po fi : Int} (H : SrtG prog w n₀ s.heap S ℓ g rdy po fi) {k : Int} {t : Tok} (hol : g.ord.length ≤ 1000)
    (ret : ∀ h' tk' ℓ', Ext S ℓ g.ord ℓ' (gAdd g k).ord s.heap h' → SrtG prog w n₀ h' S ℓ' (gAdd g k) rdy po fi → Gd w n₀ h' → Q (.ref (ℓ'.ia k)) { s with heap := h', toks := tk' }) :
    wpAny (model prog w) A (call (.ref 107) [.ref S, .int k t]) Q E s := by
  refine getInfo G r H.size H (by rw [sizeLine_eq]; exact Mine.q34 hol) (fun hk h' tk' kp => ?_) fun hk h' tk' x l dx u o' kb go hd gx gdx gl fx fdx fl bx bdx bl => ?_
  · have e : gAdd g k = g := if_pos hk
    refine ret h' tk' ℓ ?_ ?_ (G.keep kp)
    · rw [e]; exact Ext.of_kpB (W := []) kp.b fun _ z => absurd z List.not_mem_nil
    · rw [e]; exact H.keepK kp
  · have e : gAdd g k = ⟨g.ord ++ [k], upd g.np k 0, upd g.su k []⟩ := if_neg hk
    obtain ⟨ℓ', rfl, H', X'⟩ := H.addNew hk kb go hd gx gdx gl fx fdx fl bx bdx bl
    refine ret h' tk' ℓ' (e ▸ X') (e ▸ H') (G.keepB kb (List.forall_mem_singleton.mpr H.lo.2.2.1))
theorem addC {prog : Program} {w : World} {n₀ : Nat} {A : Around} {s : Shared} {Q E : Value → Shared → Prop} (G : Gd w n₀ s.heap) (r : Rm A 8 60)
    {S : Addr} {ℓ : SL} {g : GS} {po fi : Int} (H : SrtG prog w n₀ s.heap S ℓ g .none po fi) {k : Int} {t : Tok} {vs : List Value} {ps : List Int} (hps : IntsAre vs ps) (hol : g.ord.length + ps.length + 1 ≤ 1000) {M : Nat} (hsu : SuB g M) (hM : M + ps.length ≤ 1000)
    (ret : ∀ h' tk' ℓ', Ext S ℓ g.ord ℓ' (gNode g k ps).ord s.heap h' → SrtG prog w n₀ h' S ℓ' (gNode g k ps) .none po fi → Gd w n₀ h' → Q .none { s with heap := h', toks := tk' }) :
    codeAny (model prog w) A (.call (.ref 114) ⟨.ref S :: .int k t :: vs, []⟩) (fun r s' => match r with | .ok (.ret v) => Q v s' | .ok _ => False | .error e => E e s') s := by
  w_on
  obtain ⟨k0, k1, k2, k3, t1, t2, dn, hdS⟩ := H.dict
  have hlen := hps.length
  refine' startVQ (K := Mine.hd.heap_1 w.params) [(S, instObj 164 ℓ.dS), (ℓ.dS, dictOf (srtD w k0 k1 k2 k3 (.ref ℓ.n2) .none (.int po t1) (.int fi t2)) dn)] [(Str.ofString "self", .ref S), (Str.ofString "node", .int k t)] (Str.ofString "predecessors") vs (d := 7) (u := 57) r (fun _ q => q) G H.size ⟨⟨H.inst, H.lo.1⟩, ⟨hdS, H.lo.2.1⟩, trivial⟩ ?k4 ?k5 ?k6b ?k7 ?k8 ?_ ?c2 ?c3 ?c4 ?c5
  (case k4 => k_is)
  (case k5 => k_is)
  (case k6b => (rw [sizeLine_eq]; exact Mine.q38 hol hlen))
  (case k7 => (refine' Eq.trans (bindV2 ?a ?b ?c) ?d; (case a => exact rfl); (case b => exact rfl); (case c => decide); (case d => exact rfl)))
  (case k8 => (intro v; exact locs rfl))
  (case c2 => exact rfl)
  (case c3 => exact rfl)
  (case c4 => exact rfl)
  (case c5 => decide)
  intro A' PQ PE rA hQ1 hQ2 h₁ h₀ L tail mean mg mb tk0 T fT bT B F N X TT
  simp only [List.cons_append, List.nil_append] at N
  have TR := topRead_of TT
  w_strict (
  k_steps
  (rename Fr _ _ _ _ => F1); (rename News _ _ _ _ => N1)
  have kp1 := kp_same (B.fin _ _ _ F1 N1 fun p hp => tl (tl (tl hp))) (al3 (.inl fT) (.inr ⟨_, H.inst, N1.get (by k_mem)⟩) (.inr ⟨_, hdS, N1.get (by k_mem)⟩))
  have H1 := H.keepK kp1
  have gT := N1.get (.head _)
  have oL := Off.none H B.lf
  have oT := Off.none H fT
  have nLT := (N1 _ (.head _)).2.1
  refine getInfo2 (B.gd _ _ _ F1 N1).1 (rA.less (by exact Mine.q39) (by exact Mine.q40)) H1 (by exact Mine.q41 hol) ?_
  intro h2 tk2 ℓ2 X2 H2 G2
  have hn2 := F1.ns.at' fun o e => X2.keep L o oL e
  obtain ⟨oL2, gL2⟩ : ∃ o, h₁.get? L = some o := let ⟨o, _, _, e, _⟩ := F1.ns; ⟨o, e⟩
  have oL2 := X2.off _ _ gL2 oL
  have gT2 := X2.keep _ _ oT gT
  have oT2 := X2.off _ _ gT oT
  have hk2 := gAdd_mem g k
  obtain ⟨ti, ui, gi, gx⟩ := H2.info k hk2
  obtain ⟨j0, j1, j2, j3, j4, j5, dn2, hdS2⟩ := H2.dict
  have lo2 := H2.lo
  obtain ⟨h₀', tail', F3, N3, off3, lt3, X3, ⟨mean3, mg3, mb3, T3⟩, hid3, bk3⟩ := rebase [(T, tupOf vs), (ℓ2.ia k, niObj (ℓ2.dx k) k ti ((gAdd g k).np k) ui (ℓ2.la k)), (ℓ2.dx k, dictOf [] 0)] G2 hn2 B.ln (al3 ⟨gT2, nLT, bT⟩ ⟨gi, (oL2.i k hk2).symm, (lo2.2.2.2 k hk2).1⟩ ⟨gx, (oL2.x k hk2).symm, (lo2.2.2.2 k hk2).2.2⟩)
  simp only [List.cons_append, List.nil_append] at N3
  clear F1 N1 X TT TR
  have TR := topRead_of T3
  have hne1 := neN (oT2.i k hk2)
  have hne2 := neN (oT2.x k hk2)
  have hne3 := neN (H2.ne3 hk2).2.2
  have ht1 : ∀ q ∈ tail', q.1 ≠ ℓ2.ia k := fun q hq e => off3 q hq (e ▸ .tail _ (.head _))
  have hzT : vs.toArray.size ≤ 1000 := by rw [List.size_toArray]; exact Mine.q42 hol hlen
  dsimp only
  k_steps
  (rename Fr _ _ _ _ => F5); (rename News _ _ _ _ => N5)
  rename_i h5
  refine wpAny_For ?_
  refine nameX_L F5 rfl ?_ rfl rfl
  have ht5 := N5.get (.head _)
  refine wpAny_pyIter_tuple ⟨_, ht5, rfl, _, rfl⟩ ?_
  have c5 := (bk3 _ _ _ F5 N5 fun q hq => tl (tl (tl hq))).less (W' := [L, ℓ2.ia k]) (al4 (.inl (.head _)) (.inr ⟨_, gT2, N5.get (by k_mem)⟩) (.inl (.tail _ (.head _))) (.inr ⟨_, gx, N5.get (by k_mem)⟩))
  have H5 : SrtG prog w n₀ h5 S ℓ2 (gNp (gAdd g k) k ps.length) .none po fi := by
    have := H2.setNp hk2 c5 (al2 (.inr oL2) (.inl rfl)) (N5.get (.tail _ (.head _)))
    rwa [List.size_toArray, hlen] at this
  have X5 := ((Ext.of_kp kp1).trans X2).kpB c5 (al2 (.inl B.lf) (.inr fun f => f.i k hk2 rfl))
  have lI : s.heap.objs.size ≤ h5.objs.size := Nat.le_trans B.ls (Nat.le_of_lt F5.ns.lt)
  have fI : s.heap.get? h5.objs.size = none := Heap.get?_none_of_le lI
  have bI : n₀ ≤ h5.objs.size := Nat.le_trans H.size lI
  have oI : Off S ℓ2 (gAdd g k).ord h5.objs.size := Off.none H5 (Heap.get?_none_of_le (Nat.le_refl _))
  have kp6 : Kp h5 (h5.push { cls := .type "tuple_iterator", data := .fields #[.ref T, .int 0 0] }) := fun b o e => Heap.get?_push_of_some _ e
  have H6 := H5.keepK kp6
  have X6 := X5.trans (Ext.of_kp kp6)
  have G6 := (G2.keepB c5 (al2 B.ln (lo2.2.2.2 k hk2).1)).keep kp6
  have nLI := Nat.ne_of_lt F5.ns.lt
  obtain ⟨m5, F6, e1, e2⟩ : ∃ m5, Fr h₀' L (h5.push { cls := .type "tuple_iterator", data := .fields #[.ref T, .int 0 0] }) m5 ∧ m5 (Str.ofString "self") = some (.ref S) ∧ m5 (Str.ofString "node") = some (.int k t) := ⟨_, F5.push { cls := .type "tuple_iterator", data := .fields #[.ref T, .int 0 0] }, rfl, rfl⟩
  refine forQ (fun i m h => (∀ y, y ≠ Str.ofString "pred" → y ≠ Str.ofString "pred_info" → m y = m5 y) ∧ Gd w n₀ h ∧ ∃ ℓi, Ext S ℓ g.ord ℓi ((ps.take i).foldl (gPre k) (gNp (gAdd g k) k ps.length)).ord s.heap h ∧ SrtG prog w n₀ h S ℓi ((ps.take i).foldl (gPre k) (gNp (gAdd g k) k ps.length)) .none po fi ∧
      Off S ℓi ((ps.take i).foldl (gPre k) (gNp (gAdd g k) k ps.length)).ord L ∧ Off S ℓi ((ps.take i).foldl (gPre k) (gNp (gAdd g k) k ps.length)).ord h5.objs.size ∧ Off S ℓi ((ps.take i).foldl (gPre k) (gNp (gAdd g k) k ps.length)).ord T) (Walks.tuple (A := A') rA.hh _ _ (Nat.ne_of_lt (Heap.lt_size ht5)) vs.toArray) rfl rfl ?_ ?_ F6.ns ?_ ?_ ?_
  · exact nin2 nLI (Ne.symm nLT)
  · exact ⟨⟨_, Heap.get?_push_size _ rfl, rfl, rfl⟩, ⟨_, Heap.get?_push_of_some _ ht5, rfl, _, rfl⟩⟩
  · exact ⟨fun _ _ _ => rfl, G6, ℓ2, X6, H6, oL2, oI, oT2⟩
  · rintro PT PE7 i v m h hh tk7 hPT hi hv ⟨jm, jG, ℓi, jX, jH, oLi, oIi, oTi⟩ kb hn7 st
    have em : m = fun y => if y = Str.ofString "self" then some (.ref S) else if y = Str.ofString "node" then some (.int k t) else m y := (named ((jm _ (by decide) (by decide)).trans e1)).trans (congrArg (fun f : Str → Option Value => fun y => if y = Str.ofString "self" then some (.ref S) else f y) (named ((jm _ (by decide) (by decide)).trans e2)))
    rw [em] at hn7
    have hil : i < ps.length := by rw [← hlen]; simpa using hi
    obtain ⟨p, hp⟩ : ∃ p, ps[i]? = some p := ⟨_, List.getElem?_eq_getElem hil⟩
    obtain ⟨tp, htp⟩ := hps.get i p hp
    obtain rfl : v = .int p tp := by
      rw [List.getElem?_toArray] at hv
      exact Option.some.inj (hv.symm.trans htp)
    have hl2 := gAdd_len g k
    have hl7 := take_len k (gNp (gAdd g k) k ps.length) (Nat.le_of_lt hil)
    have hs7 : SuB ((ps.take i).foldl (gPre k) (gNp (gAdd g k) k ps.length)) (M + ps.length) := fun q hq => by
      have := SuB.all (g := gNp (gAdd g k) k ps.length) (hsu.add k) k (ps.take i) q hq
      rw [List.length_take] at this; exact Mine.q37 this
    have hft := fold_take hp k (gNp (gAdd g k) k ps.length)
    generalize (ps.take i).foldl (gPre k) (gNp (gAdd g k) k ps.length) = gi at jX jH oLi oIi oTi hl7 hs7 hft
    have H7 := jH.keep kb (al2 oLi oIi)
    have G7 : Gd w n₀ hh := jG.keepB kb (al2 B.ln bI)
    have X7 := jX.kpB kb (al2 (.inl B.lf) (.inl fI))
    obtain ⟨i0, i1, i2, i3, i4, i5, dn7, hdS7⟩ := H7.dict
    obtain ⟨lo1, lo2, lo3, lo4⟩ := H7.lo
    obtain ⟨h₀8, tail8, F8, N8, off8, lt8, X8, ⟨mean8, mg8, mb8, T8⟩, hid8, bk8⟩ := rebase [(S, instObj 164 ℓi.dS), (ℓi.dS, dictOf (srtD w i0 i1 i2 i3 (.ref ℓi.n2) .none (.int po i4) (.int fi i5)) dn7)] G7 hn7 B.ln (al2 ⟨H7.inst, oLi.s.symm, lo1⟩ ⟨hdS7, oLi.d.symm, lo2⟩)
    simp only [List.cons_append, List.nil_append] at N8
    clear F5 N5 F6 X3 T3 TR
    have TR8 := topRead_of T8
    k_steps
    (rename Fr _ _ _ _ => F9); (rename News _ _ _ _ => N9)
    have c9 := (bk8 _ _ _ F9 N9 fun q hq => tl (tl hq)).less (W' := [L]) (al3 (.inl (.head _)) (.inr ⟨_, H7.inst, N9.get (by k_mem)⟩) (.inr ⟨_, hdS7, N9.get (by k_mem)⟩))
    have hol9 : gi.ord.length ≤ 1000 := by
      have : (gNp (gAdd g k) k ps.length).ord.length = (gAdd g k).ord.length := rfl
      exact Mine.q43 hol hl2 hl7 this
    refine getInfo2 (G7.keepB c9 (List.forall_mem_singleton.mpr B.ln)) (rA.less (by exact Mine.q39) (by exact Mine.q40)) (H7.keep c9 (List.forall_mem_singleton.mpr oLi)) hol9 ?_
    intro h10 tk10 ℓj X10 H10 G10
    have hn10 := F9.ns.at' fun o e => X10.keep L o oLi e
    obtain ⟨_, gL9⟩ : ∃ o, _ := let ⟨o, _, _, e, _⟩ := F9.ns; ⟨o, e⟩
    obtain ⟨_, gI7, rI⟩ := st.1
    obtain ⟨_, gT7, rT⟩ := st.2
    have gI9 := c9 _ _ (nin1 nLI.symm) gI7
    have gT9 := c9 _ _ (nin1 nLT) gT7
    have oLj := X10.off _ _ gL9 oLi
    have oIj := X10.off _ _ gI9 oIi
    have oTj := X10.off _ _ gT9 oTi
    have gI10 := X10.keep _ _ oIi gI9
    have gT10 := X10.keep _ _ oTi gT9
    have hpj := gAdd_mem gi p
    obtain ⟨ti, ui, gi10, gx10⟩ := H10.info p hpj
    obtain ⟨us, un, gl10, hus⟩ := H10.lst p hpj
    have hlj := H10.lo.2.2.2 p hpj
    have husz : us.size ≤ 1000 := by
      have h1 := (hs7.add p) p hpj
      have h2 := hus.length
      rw [Array.length_toList] at h2; exact Mine.q44 hM h1 h2
    obtain ⟨h₀11, tail11, F11, N11, off11, lt11, X11, ⟨mean11, mg11, mb11, T11⟩, hid11, bk11⟩ := rebase [(ℓj.ia p, niObj (ℓj.dx p) p ti ((gAdd gi p).np p) ui (ℓj.la p)), (ℓj.dx p, dictOf [] 0), (ℓj.la p, W.listOf us un)] G10 hn10 B.ln (al3 ⟨gi10, (oLj.i p hpj).symm, hlj.1⟩ ⟨gx10, (oLj.x p hpj).symm, hlj.2.2⟩ ⟨gl10, (oLj.l p hpj).symm, hlj.2.1⟩)
    simp only [List.cons_append, List.nil_append] at N11
    clear F9 N9 X8 T8 TR8
    have TR11 := topRead_of T11
    have hne1 := neN (H10.ne3 hpj).2.2
    have hne2 := neN (H10.ne4 hpj).1
    have hne3 := neN (H10.ne4 hpj).2
    have ht1 : ∀ q ∈ tail11, q.1 ≠ ℓj.la p := fun q hq e => off11 q hq (e ▸ .tail _ (.tail _ (.head _)))
    dsimp only
    k_steps
    refine' append_K (its := us) (n := un) ?F ?N ?U ?_ ?z
    (case F => assumption)
    (case N => assumption)
    (case U => k_upd)
    (case z => (rw [sizeLine_eq]; exact Mine.q34 husz))
    intro h12 F12 N12
    clear F11 N11
    dsimp only
    k_steps
    have c12 := (bk11 _ _ _ F12 N12 fun q hq => tl (tl (tl hq))).less (W' := [L, ℓj.la p]) (al4 (.inl (.head _)) (.inr ⟨_, gi10, N12.get (by k_mem)⟩) (.inr ⟨_, gx10, N12.get (by k_mem)⟩) (.inl (.tail _ (.head _))))
    refine hPT _ _ ⟨.inl rfl, _, _, _, rfl, F12.ns, ⟨⟨_, c12 _ _ (nin2 nLI.symm (oIj.l p hpj)) gI10, rI⟩, ⟨_, c12 _ _ (nin2 nLT (oTj.l p hpj)) gT10, rT⟩⟩, fun y h1 h2 => (if_neg h2).trans ((if_neg h1).trans ((congrFun em y).symm.trans (jm y h1 h2))), G10.keepB c12 (al2 B.ln hlj.2.1), ℓj, ?_⟩
    rw [hft]
    refine ⟨((X7.kpB c9 (List.forall_mem_singleton.mpr (.inl B.lf))).trans X10).kpB c12 (al2 (.inl B.lf) (.inr fun f => f.l p hpj rfl)), H10.setSu hpj c12 (al2 (.inr oLj) (.inl rfl)) (N12.get (by k_mem)) ?_, oLj, oIj, oTj⟩
    rw [Array.toList_push]
    exact hus.append (.cons k t .nil)
  · rintro m h hh tk7 ⟨jm, jG, ℓi, jX, jH, oLi, oIi, oTi⟩ kb hn7
    have etk : ps.take vs.toArray.size = ps := List.take_of_length_le (by rw [List.size_toArray, hlen]; exact Nat.le_refl _)
    rw [etk] at jX jH oIi
    refine wpAny_execs_nil ?_
    exact hQ2 _ <| ret _ _ ℓi (jX.kpB kb (List.forall_mem_singleton.mpr (.inl fI))) (jH.keep kb (List.forall_mem_singleton.mpr oIi)) (jG.keepB kb (List.forall_mem_singleton.mpr bI)))
end Mine
end
section
open PySem PySem.W PyProof.Rows PySem.Calls PySem.Spec
set_option Elab.async false
set_option maxRecDepth 100000
set_option maxHeartbeats 4000000
namespace Mine
theorem fillK6 : (PySem.Challenge.rw_oc0253_01, Mine.hd.heap_1) = (PySem.Challenge.rw_oc0253_01, Mine.hd.heap_1) := by k_fill; rfl
theorem neF {h : Heap} {b L : Nat} {o : Obj} (hl : h.get? L = none) (e : h.get? b = some o) : b ≠ L := fun q => by rw [q, hl] at e; cases e
theorem dec_len : ∀ (l : List Int) (st : (Int → Int) × List Int), (l.foldl decOne st).2.length ≤ st.2.length + l.length
  | [], st => Nat.le_refl _
  | x :: l, st => by
    have h1 := dec_len l (decOne st x)
    have h2 : (decOne st x).2.length ≤ st.2.length + 1 := by
      unfold decOne
      dsimp only
      split
      · rw [List.length_append]; exact Nat.le_refl _
      · exact Mine.q31
    show (l.foldl decOne (decOne st x)).2.length ≤ _
    rw [List.length_cons]; exact Mine.q36 h1 h2
noncomputable abbrev dAll (su : Int → List Int) (np : Int → Int) (rdy ns : List Int) : (Int → Int) × List Int := ns.foldl (doneOne su) (np, rdy)
theorem doneC {prog : Program} {w : World} {n₀ : Nat} {A : Around} {s : Shared} {Q E : Value → Shared → Prop} (G : Gd w n₀ s.heap) (r : Rm A 4 20)
    {S : Addr} {ℓ : SL} {ord : List Int} {np : Int → Int} {su : Int → List Int} {po fi : Int} {R : Addr} {rs : Array Value} {rn : Nat} {rdy : List Int} (H : SrtH prog w n₀ s.heap S ℓ ord np su (.ref R) po fi)
    (hR : s.heap.get? R = some (W.listOf rs rn)) (hrs : IntsAre rs.toList rdy) (bR : n₀ ≤ R) (oR : Off S ℓ ord R) {vs : List Value} {ns : List Int} (hns : IntsAre vs ns) (hnl : ns.length ≤ 1000) (hin : ∀ q ∈ ns, q ∈ ord) (hsu : ∀ q ∈ ord, ∀ x ∈ su q, x ∈ ord)
    (hout : ∀ i q, ns[i]? = some q → (dAll su np rdy (ns.take i)).1 q = -1) (hbd : ∀ i q, ns[i]? = some q → (dAll su np rdy (ns.take i)).2.length + (su q).length ≤ 1000)
    (ret : ∀ h' tk rs' rn', (∀ b o, Off S ℓ ord b → b ≠ R → s.heap.get? b = some o → h'.get? b = some o) → SrtH prog w n₀ h' S ℓ ord (dAll su np rdy ns).1 su (.ref R) po (fi + ns.length) → h'.get? R = some (W.listOf rs' rn') → IntsAre rs'.toList (dAll su np rdy ns).2 → Gd w n₀ h' → Q .none { s with heap := h', toks := tk }) :
    codeAny (model prog w) A (.call (.ref 147) ⟨.ref S :: vs, []⟩) (fun r s' => match r with | .ok (.ret v) => Q v s' | .ok _ => False | .error e => E e s') s := by
  w_on
  obtain ⟨k0, k1, k2, k3, t1, t2, dn, hdS⟩ := H.dict
  have hlen := hns.length
  refine' startVQ (K := Mine.hd.heap_1 w.params) [(S, instObj 164 ℓ.dS), (ℓ.dS, dictOf (srtD w k0 k1 k2 k3 (.ref ℓ.n2) (.ref R) (.int po t1) (.int fi t2)) dn)] [(Str.ofString "self", .ref S)] (Str.ofString "nodes") vs (d := 3) (u := 17) r (fun _ q => q) G H.size ⟨⟨H.inst, H.lo.1⟩, ⟨hdS, H.lo.2.1⟩, trivial⟩ ?k4 ?k5 ?k6b ?k7 ?k8 ?_ ?c2 ?c3 ?c4 ?c5
  (case k4 => k_is)
  (case k5 => k_is)
  (case k6b => (rw [sizeLine_eq]; exact Mine.q45 hnl hlen))
  (case k7 => (refine' Eq.trans (bindV1 ?a ?b) ?d; (case a => exact rfl); (case b => exact rfl); (case d => exact rfl)))
  (case k8 => (intro v; exact locs rfl))
  (case c2 => exact rfl)
  (case c3 => exact rfl)
  (case c4 => exact rfl)
  (case c5 => decide)
  intro A' PQ PE rA hQ1 hQ2 h₁ h₀ L tail mean mg mb tk0 T fT bT B F N X TT
  simp only [List.cons_append, List.nil_append] at N
  have TR := topRead_of TT
  w_strict (
  k_steps
  (rename Fr _ _ _ _ => F5); (rename News _ _ _ _ => N5)
  rename_i h5
  have kp5 := kp_same (B.fin _ _ _ F5 N5 fun p hp => tl (tl (tl hp))) (al3 (.inl fT) (.inr ⟨_, H.inst, N5.get (by k_mem)⟩) (.inr ⟨_, hdS, N5.get (by k_mem)⟩))
  have H5 := H.keepK kp5
  refine wpAny_For ?_
  refine nameX_L F5 rfl ?_ rfl rfl
  have ht5 := N5.get (.head _)
  refine wpAny_pyIter_tuple ⟨_, ht5, rfl, _, rfl⟩ ?_
  have lI : s.heap.objs.size ≤ h5.objs.size := Nat.le_trans B.ls (Nat.le_of_lt F5.ns.lt)
  have fI : s.heap.get? h5.objs.size = none := Heap.get?_none_of_le lI
  have bI : n₀ ≤ h5.objs.size := Nat.le_trans H.size lI
  have oI := Off.none H fI
  have oT := Off.none H fT
  have oL := Off.none H B.lf
  have nLI := Nat.ne_of_lt F5.ns.lt
  have nLT := (N5 _ (.head _)).2.1
  have kp6 : Kp h5 (h5.push { cls := .type "tuple_iterator", data := .fields #[.ref T, .int 0 0] }) := fun b o e => Heap.get?_push_of_some _ e
  have H6 := H5.keepK kp6
  have G6 := (G.keep kp5).keep kp6
  obtain ⟨m5, F6, e1, e2⟩ : ∃ m5, Fr h₀ L (h5.push { cls := .type "tuple_iterator", data := .fields #[.ref T, .int 0 0] }) m5 ∧ m5 (Str.ofString "self") = some (.ref S) ∧ m5 (Str.ofString "n2i") = some (.ref ℓ.n2) := ⟨_, F5.push { cls := .type "tuple_iterator", data := .fields #[.ref T, .int 0 0] }, rfl, rfl⟩
  have nRL : R ≠ L := fun e => by rw [e, B.lf] at hR; cases hR
  have nRI : R ≠ h5.objs.size := fun e => by rw [e, fI] at hR; cases hR
  refine forQ (fun i m h => (∀ y, y ≠ Str.ofString "node" → y ≠ Str.ofString "nodeinfo" → y ≠ Str.ofString "stat" → y ≠ Str.ofString "successor" → y ≠ Str.ofString "successor_info" → m y = m5 y) ∧ Gd w n₀ h ∧ SrtH prog w n₀ h S ℓ ord (dAll su np rdy (ns.take i)).1 su (.ref R) po (fi + i) ∧
      (∃ rs rn, h.get? R = some (W.listOf rs rn) ∧ IntsAre rs.toList (dAll su np rdy (ns.take i)).2) ∧ ∀ b o, Off S ℓ ord b → b ≠ R → s.heap.get? b = some o → h.get? b = some o) (Walks.tuple (A := A') rA.hh _ _ (Nat.ne_of_lt (Heap.lt_size ht5)) vs.toArray) rfl rfl ?_ ?_ F6.ns ?_ ?_ ?_
  · exact nin2 nLI (Ne.symm nLT)
  · exact ⟨⟨_, Heap.get?_push_size _ rfl, rfl, rfl⟩, ⟨_, Heap.get?_push_of_some _ ht5, rfl, _, rfl⟩⟩
  · exact ⟨fun _ _ _ _ _ _ => rfl, G6, (by rw [show fi + ((0 : Nat) : Int) = fi by exact Mine.q46]; exact H6), ⟨rs, rn, kp6 _ _ (kp5 _ _ hR), hrs⟩, fun b o _ _ e => kp6 _ _ (kp5 _ _ e)⟩
  · rintro PT PE7 i v m h hh tk7 hPT hi hv ⟨jm, jG, jH, ⟨us, un, gR, hus⟩, jK⟩ kb hn7 st
    have em : m = fun y => if y = Str.ofString "self" then some (.ref S) else if y = Str.ofString "n2i" then some (.ref ℓ.n2) else m y := (named ((jm _ (by decide) (by decide) (by decide) (by decide) (by decide)).trans e1)).trans (congrArg (fun f : Str → Option Value => fun y => if y = Str.ofString "self" then some (.ref S) else f y) (named ((jm _ (by decide) (by decide) (by decide) (by decide) (by decide)).trans e2)))
    rw [em] at hn7
    have hil : i < ns.length := by rw [← hlen]; simpa using hi
    obtain ⟨p, hp⟩ : ∃ p, ns[i]? = some p := ⟨_, List.getElem?_eq_getElem hil⟩
    obtain ⟨tp, htp⟩ := hns.get i p hp
    obtain rfl : v = .int p tp := by
      rw [List.getElem?_toArray] at hv
      exact Option.some.inj (hv.symm.trans htp)
    have hpo : p ∈ ord := hin p (List.mem_of_getElem? hp)
    have ho := hout i p hp
    have hb := hbd i p hp
    have hft : dAll su np rdy (ns.take (i + 1)) = doneOne su (dAll su np rdy (ns.take i)) p := by
      show (ns.take (i + 1)).foldl _ _ = _
      rw [List.take_add_one, hp]; exact List.foldl_append ..
    generalize dAll su np rdy (ns.take i) = di at jH hus ho hb hft
    obtain ⟨npi, rdi⟩ := di
    dsimp only at jH hus ho hb
    have H7 := jH.keep kb (al2 oL oI)
    have G7 : Gd w n₀ hh := jG.keepB kb (al2 B.ln bI)
    have gR7 := kb _ _ (nin2 nRL nRI) gR
    obtain ⟨ti, ui, gi, gx⟩ := H7.info p hpo
    rw [ho] at gi
    obtain ⟨oD, hoD, hD⟩ := H7.tab
    obtain ⟨lo1, lo2, lo3, lo4⟩ := H7.lo
    obtain ⟨h₀8, tail8, F8, N8, off8, lt8, X8, ⟨mean8, mg8, mb8, T8⟩, hid8, bk8⟩ := rebase [(ℓ.n2, oD), (ℓ.ia p, niObj (ℓ.dx p) p ti (-1) ui (ℓ.la p)), (ℓ.dx p, dictOf [] 0)] G7 hn7 B.ln (al3 ⟨hoD, oL.n.symm, lo3⟩ ⟨gi, (oL.i p hpo).symm, (lo4 p hpo).1⟩ ⟨gx, (oL.x p hpo).symm, (lo4 p hpo).2.2⟩)
    simp only [List.cons_append, List.nil_append] at N8
    clear F5 N5 F6 X TT TR
    have TR8 := topRead_of T8
    obtain ⟨n31, n32, n33⟩ := H7.ne3 hpo
    have hne1 := neN n31
    have hne2 := neN n32
    have hne3 := neN n33
    have ht1 : ∀ q ∈ tail8, q.1 ≠ ℓ.ia p := fun q hq e => off8 q hq (e ▸ .tail _ (.head _))
    k_steps
    refine kd_get (by assumption) (by k_mem) hD H7.sm ?_
    rw [valueAt_map, if_pos hpo]
    dsimp only [Option.getD]
    k_steps
    refine wpAny_For ?_
    k_steps
    (rename Fr _ _ _ _ => F9); (rename News _ _ _ _ => N9)
    have c9 := (bk8 _ _ _ F9 N9 fun q hq => tl (tl (tl hq))).less (W' := [L, ℓ.ia p]) (al4 (.inl (.head _)) (.inr ⟨_, hoD, N9.get (by k_mem)⟩) (.inl (.tail _ (.head _))) (.inr ⟨_, gx, N9.get (by k_mem)⟩))
    have H9 := H7.setNp hpo c9 (al2 (.inr oL) (.inl rfl)) (N9.get (.tail _ (.head _)))
    obtain ⟨ss, sn, gl9, hss⟩ := H9.lst p hpo
    refine wpAny_pyIter_list (IsL.isList gl9) ?_
    rename_i h9
    have lJ : s.heap.objs.size ≤ h9.objs.size := Nat.le_trans B.ls (Nat.le_of_lt F9.ns.lt)
    have fJ : s.heap.get? h9.objs.size = none := Heap.get?_none_of_le lJ
    have bJ : n₀ ≤ h9.objs.size := Nat.le_trans H.size lJ
    have oJ := Off.none H fJ
    have nLJ := Nat.ne_of_lt F9.ns.lt
    have nRJ : R ≠ h9.objs.size := fun e => by rw [e, fJ] at hR; cases hR
    obtain ⟨_, gI7, rI⟩ := st.1
    obtain ⟨_, gT7, rT⟩ := st.2
    have gI9 := c9 _ _ (nin2 nLI.symm (oI.i p hpo)) gI7
    have gT9 := c9 _ _ (nin2 nLT (oT.i p hpo)) gT7
    have gR9 := c9 _ _ (nin2 nRL (oR.i p hpo)) gR7
    have nIJ := Nat.ne_of_lt (Heap.lt_size gI9)
    have nTJ := Nat.ne_of_lt (Heap.lt_size gT9)
    have kpA : Kp h9 (h9.push { cls := .type "list_iterator", data := .fields #[.ref (ℓ.la p), .int 0 0] }) := fun b o e => Heap.get?_push_of_some _ e
    have GA := (G7.keepB c9 (al2 B.ln (lo4 p hpo).1)).keep kpA
    obtain ⟨m9, FA, f1, f2, f3⟩ : ∃ m9, Fr h₀8 L (h9.push { cls := .type "list_iterator", data := .fields #[.ref (ℓ.la p), .int 0 0] }) m9 ∧ m9 (Str.ofString "self") = some (.ref S) ∧ m9 (Str.ofString "n2i") = some (.ref ℓ.n2) ∧ (∀ y, y ≠ Str.ofString "node" → y ≠ Str.ofString "nodeinfo" → y ≠ Str.ofString "stat" → y ≠ Str.ofString "successor" → y ≠ Str.ofString "successor_info" → m9 y = m5 y) :=
      ⟨_, F9.push { cls := .type "list_iterator", data := .fields #[.ref (ℓ.la p), .int 0 0] }, rfl, rfl, fun y h1 h2 h3 h4 h5 => (if_neg h3).trans ((if_neg h2).trans ((if_neg h1).trans ((congrFun em y).symm.trans (jm y h1 h2 h3 h4 h5))))⟩
    have jK9 : ∀ b o, Off S ℓ ord b → b ≠ R → s.heap.get? b = some o → h9.get? b = some o := fun b o f nr e => c9 b o (nin2 (neF B.lf e) (f.i p hpo)) (kb b o (nin2 (neF B.lf e) (neF fI e)) (jK b o f nr e))
    refine forQ (fun j m h => (∀ y, y ≠ Str.ofString "successor" → y ≠ Str.ofString "successor_info" → m y = m9 y) ∧ Gd w n₀ h ∧ SrtH prog w n₀ h S ℓ ord (((su p).take j).foldl decOne (upd npi p (-2), rdi)).1 su (.ref R) po (fi + i) ∧
      (∃ rs rn, h.get? R = some (W.listOf rs rn) ∧ IntsAre rs.toList (((su p).take j).foldl decOne (upd npi p (-2), rdi)).2) ∧ (∀ b o, Off S ℓ ord b → b ≠ R → s.heap.get? b = some o → h.get? b = some o) ∧ h.IsTupleIter h5.objs.size T (i + 1) ∧ h.IsTuple T vs.toArray) (Walks.list (A := A') rA.hh _ _ (Nat.ne_of_lt (Heap.lt_size gl9)) ss) rfl rfl ?_ ?_ FA.ns ?_ ?_ ?_
    · exact nin2 nLJ (oL.l p hpo)
    · exact ⟨⟨_, Heap.get?_push_size _ rfl, rfl, rfl⟩, (IsL.isList gl9).at fun o e => kpA _ _ e⟩
    · exact ⟨fun _ _ _ => rfl, GA, H9.keepK kpA, ⟨us, un, kpA _ _ gR9, hus⟩, fun b o f nr e => kpA _ _ (jK9 b o f nr e), ⟨_, kpA _ _ gI9, rI⟩, ⟨_, kpA _ _ gT9, rT⟩⟩
    · rintro PT' PE8 j v m' h' hh' tk8 hPT' hj hv' ⟨jm', jG', jH', ⟨us', un', gR', hus'⟩, jK', jI', jT'⟩ kb' hn8 st'
      have em' : m' = fun y => if y = Str.ofString "self" then some (.ref S) else if y = Str.ofString "n2i" then some (.ref ℓ.n2) else m' y := (named ((jm' _ (by decide) (by decide)).trans f1)).trans (congrArg (fun f : Str → Option Value => fun y => if y = Str.ofString "self" then some (.ref S) else f y) (named ((jm' _ (by decide) (by decide)).trans f2)))
      rw [em'] at hn8
      have hlenS := hss.length
      rw [Array.length_toList] at hlenS
      obtain ⟨x, hx⟩ : ∃ x, (su p)[j]? = some x := ⟨_, List.getElem?_eq_getElem (by rw [← hlenS]; exact hj)⟩
      obtain ⟨tx, htx⟩ := hss.get j x hx
      obtain rfl : v = .int x tx := by
        rw [Array.getElem?_toList] at htx
        exact Option.some.inj (hv'.symm.trans htx)
      have hxo : x ∈ ord := hsu p hpo x (List.mem_of_getElem? hx)
      have hfj : ((su p).take (j + 1)).foldl decOne (upd npi p (-2), rdi) = decOne (((su p).take j).foldl decOne (upd npi p (-2), rdi)) x := by
        rw [List.take_add_one, hx]; exact List.foldl_append ..
      have hbj : (((su p).take j).foldl decOne (upd npi p (-2), rdi)).2.length ≤ 1000 := by
        have h1 := dec_len ((su p).take j) (upd npi p (-2), rdi)
        rw [List.length_take] at h1
        dsimp only at h1; exact Mine.q47 hb h1
      generalize ((su p).take j).foldl decOne (upd npi p (-2), rdi) = dj at jH' hus' hfj hbj
      obtain ⟨npj, rdj⟩ := dj
      dsimp only at jH' hus' hbj
      have H8 := jH'.keep kb' (al2 oL oJ)
      have G8 : Gd w n₀ hh' := jG'.keepB kb' (al2 B.ln bJ)
      have gR8 := kb' _ _ (nin2 nRL nRJ) gR'
      obtain ⟨i0, i1, i2, i3, i4, i5, dn8, hdS8⟩ := H8.dict
      obtain ⟨tj, uj, gj, gxj⟩ := H8.info x hxo
      obtain ⟨oD', hoD', hD'⟩ := H8.tab
      have husz : us'.size ≤ 1000 := by
        have := hus'.length
        rw [Array.length_toList] at this; exact Mine.q48 hbj this
      obtain ⟨h₀B, tailB, FB, NB, offB, ltB, XB, ⟨meanB, mgB, mbB, TB⟩, hidB, bkB⟩ := rebase [(ℓ.n2, oD'), (ℓ.ia x, niObj (ℓ.dx x) x tj (npj x) uj (ℓ.la x)), (ℓ.dx x, dictOf [] 0), (S, instObj 164 ℓ.dS), (ℓ.dS, dictOf (srtD w i0 i1 i2 i3 (.ref ℓ.n2) (.ref R) (.int po i4) (.int (fi + i) i5)) dn8), (R, W.listOf us' un')] G8 hn8 B.ln
        (cons9 ⟨hoD', oL.n.symm, lo3⟩ (cons9 ⟨gj, (oL.i x hxo).symm, (lo4 x hxo).1⟩ (al4 ⟨gxj, (oL.x x hxo).symm, (lo4 x hxo).2.2⟩ ⟨H8.inst, oL.s.symm, lo1⟩ ⟨hdS8, oL.d.symm, lo2⟩ ⟨gR8, nRL, bR⟩)))
      simp only [List.cons_append, List.nil_append] at NB
      clear F9 N9 X8 T8 TR8 FA
      have TRB := topRead_of TB
      obtain ⟨m31, m32, m33⟩ := H8.ne3 hxo
      have hme1 := neN m31
      have hme2 := neN m32
      have hme3 := neN m33
      have hme4 := neN (oR.i x hxo)
      have hme5 := neN (oR.x x hxo)
      have hme6 := neN oR.n
      have hme7 := neN oR.s
      have hme8 := neN oR.d
      have hme9 := neN (show S ≠ ℓ.ia x from fun e => by have q := H8.inst; rw [e, gj] at q; exact absurd (Value.ref.inj (congrArg Obj.cls (Option.some.inj q))) (by decide))
      have hmeA := neN (show ℓ.dS ≠ ℓ.ia x from fun e => by have q := hdS8; rw [e, gj] at q; cases q)
      have htB1 : ∀ q ∈ tailB, q.1 ≠ ℓ.ia x := fun q hq e => offB q hq (e ▸ .tail _ (.head _))
      have htB2 : ∀ q ∈ tailB, q.1 ≠ R := fun q hq e => offB q hq (e ▸ tl (tl (tl (tl (tl (.head _))))))
      have close : ∀ hC mC usC unC uC, hC.Ns L mC → (∀ y, y ≠ Str.ofString "successor" → y ≠ Str.ofString "successor_info" → mC y = m9 y) → KpB [L, ℓ.ia x, R] hh' hC → hC.get? (ℓ.ia x) = some (niObj (ℓ.dx x) x tj (npj x - 1) uC (ℓ.la x)) → hC.get? R = some (W.listOf usC unC) → IntsAre usC.toList (decOne (npj, rdj) x).2 → ∀ tkC,
          PT' .next { s with heap := hC, toks := tkC } := by
        intro hC mC usC unC uC hnC hmC kC giC gRC huC tkC
        obtain ⟨_, gJ8, rJ⟩ := st'.1
        obtain ⟨_, gl8, rl⟩ := st'.2
        obtain ⟨_, gI8, rI8⟩ := jI'
        obtain ⟨_, gT8, rT8⟩ := jT'
        have nRT : R ≠ T := neF fT hR
        have nlR := oR.l p hpo
        have kOff {a : Nat} {o : Obj} (h1 : a ≠ L) (h2 : Off S ℓ ord a) (h3 : a ≠ R) (e : hh'.get? a = some o) : hC.get? a = some o := kC a o (nin3 h1 (h2.i x hxo) h3) e
        refine hPT' _ _ ⟨.inl rfl, _, _, _, rfl, hnC, ⟨⟨_, kOff nLJ.symm oJ nRJ.symm gJ8, rJ⟩, ⟨_, kC _ _ (nin3 (oL.l p hpo).symm ?_ nlR.symm) gl8, rl⟩⟩, hmC, G8.keepB kC (al3 B.ln (lo4 x hxo).1 bR), ?_⟩
        · intro e
          have q := gl8
          rw [e, gj] at q
          cases q
          cases rl.1
        rw [hfj]
        refine ⟨H8.setNp hxo kC (al3 (.inr oL) (.inl rfl) (.inr oR)) giC, ⟨usC, unC, gRC, huC⟩, fun b o f nr e => kOff (neF B.lf e) f nr (kb' b o (nin2 (neF B.lf e) (neF fJ e)) (jK' b o f nr e)), ⟨_, kOff nLI.symm oI nRI.symm (kb' _ _ (nin2 nLI.symm nIJ) gI8), rI8⟩, ⟨_, kOff nLT oT nRT.symm (kb' _ _ (nin2 nLT nTJ) gT8), rT8⟩⟩
      k_steps
      refine kd_tail (by assumption) (by k_mem) hD' (by rw [valueAt_map, if_pos hxo]) ?_
      k_steps
      · refine' append_K (its := us') (n := un') ?F ?N ?U ?_ ?z
        (case F => assumption)
        (case N => assumption)
        (case U => k_upd)
        (case z => (rw [sizeLine_eq]; exact Mine.q34 husz))
        intro h12 F12 N12
        dsimp only
        k_steps
        rename_i hz0 _ _ _
        have cB := (bkB _ _ _ F12 N12 fun q hq => tl (tl (tl (tl (tl (tl hq)))))).less (W' := [L, ℓ.ia x, R]) (cons9 (.inl (.head _)) (cons9 (.inr ⟨_, hoD', N12.get (by k_mem)⟩) (cons9 (.inl (tl (.head _))) (al4 (.inr ⟨_, gxj, N12.get (by k_mem)⟩) (.inr ⟨_, H8.inst, N12.get (by k_mem)⟩) (.inr ⟨_, hdS8, N12.get (by k_mem)⟩) (.inl (tl (tl (.head _))))))))
        refine close _ _ _ _ _ F12.ns (fun y h1 h2 => (if_neg h2).trans ((if_neg h1).trans ((congrFun em' y).symm.trans (jm' y h1 h2)))) cB (N12.get (.tail _ (.head _))) (N12.get (tl (tl (tl (tl (tl (.head _))))))) ?_ _
        rw [show (decOne (npj, rdj) x).2 = rdj ++ [x] from if_pos (by omega), Array.toList_push]
        exact hus'.append (.cons x tx .nil)
      · (rename Fr _ _ _ _ => F12); (rename News _ _ _ _ => N12); (rename ¬ (_ = (0 : Int)) => hz0)
        have cB := (bkB _ _ _ F12 N12 fun q hq => tl (tl (tl (tl (tl (tl hq)))))).less (W' := [L, ℓ.ia x, R]) (cons9 (.inl (.head _)) (cons9 (.inr ⟨_, hoD', N12.get (by k_mem)⟩) (cons9 (.inl (tl (.head _))) (al4 (.inr ⟨_, gxj, N12.get (by k_mem)⟩) (.inr ⟨_, H8.inst, N12.get (by k_mem)⟩) (.inr ⟨_, hdS8, N12.get (by k_mem)⟩) (.inl (tl (tl (.head _))))))))
        refine close _ _ _ _ _ F12.ns (fun y h1 h2 => (if_neg h2).trans ((if_neg h1).trans ((congrFun em' y).symm.trans (jm' y h1 h2)))) cB (N12.get (.tail _ (.head _))) (N12.get (tl (tl (tl (tl (tl (.head _))))))) ?_ _
        rw [show (decOne (npj, rdj) x).2 = rdj from if_neg hz0]
        exact hus'
    · rintro m' h' hh' tk8 ⟨jm', jG', jH', ⟨us', un', gR', hus'⟩, jK', jI', jT'⟩ kb' hn8
      have em' : m' = fun y => if y = Str.ofString "self" then some (.ref S) else m' y := named ((jm' _ (by decide) (by decide)).trans f1)
      rw [em'] at hn8
      have hlenS := hss.length
      rw [Array.length_toList] at hlenS
      have etk : (su p).take ss.size = su p := List.take_of_length_le (by rw [hlenS]; exact Nat.le_refl _)
      rw [etk] at jH' hus'
      have H8 := jH'.keep kb' (List.forall_mem_singleton.mpr oJ)
      have G8 : Gd w n₀ hh' := jG'.keepB kb' (List.forall_mem_singleton.mpr bJ)
      have gR8 := kb' _ _ (nin1 nRJ) gR'
      obtain ⟨i0, i1, i2, i3, i4, i5, dn8, hdS8⟩ := H8.dict
      obtain ⟨h₀B, tailB, FB, NB, offB, ltB, XB, ⟨meanB, mgB, mbB, TB⟩, hidB, bkB⟩ := rebase [(S, instObj 164 ℓ.dS), (ℓ.dS, dictOf (srtD w i0 i1 i2 i3 (.ref ℓ.n2) (.ref R) (.int po i4) (.int (fi + i) i5)) dn8)] G8 hn8 B.ln (al2 ⟨H8.inst, oL.s.symm, lo1⟩ ⟨hdS8, oL.d.symm, lo2⟩)
      simp only [List.cons_append, List.nil_append] at NB
      clear F9 N9 X8 T8 TR8 FA
      have TRB := topRead_of TB
      have hme9 := neN H8.neSd
      have htB1 : ∀ q ∈ tailB, q.1 ≠ ℓ.dS := fun q hq e => offB q hq (e ▸ .tail _ (.head _))
      k_steps
      refine' set_dict ?k1 ?k2 ?k3 ?k4 ?k5 ?k6 ?k7 ?k8 ?k9 ?k10 ?k11 ?k12 ?k13 ?_
      (case k1 => k_asm)
      (case k2 => k_asm)
      (case k3 => k_asm)
      (case k4 => k_inst)
      (case k5 => exact rfl)
      (case k6 => k_is)
      (case k7 => k_is)
      (case k8 => k_is)
      (case k9 => k_is)
      (case k10 => k_get)
      (case k11 => exact put_fi)
      (case k12 => k_upd)
      (case k13 => exact Nat.le_of_ble_eq_true rfl)
      k_whole
      intro h12 F12 N12
      dsimp only at N12 ⊢
      clear FB NB
      k_steps
      have cB := (bkB _ _ _ F12 N12 fun q hq => tl (tl hq)).less (W' := [L, ℓ.dS]) (al3 (.inl (.head _)) (.inr ⟨_, H8.inst, N12.get (by k_mem)⟩) (.inl (tl (.head _))))
      obtain ⟨_, gI8, rI8⟩ := jI'
      obtain ⟨_, gT8, rT8⟩ := jT'
      refine hPT _ _ ⟨.inl rfl, _, _, _, rfl, F12.ns, ⟨⟨_, cB _ _ (nin2 nLI.symm oI.d) (kb' _ _ (nin1 nIJ) gI8), rI8⟩, ⟨_, cB _ _ (nin2 nLT oT.d) (kb' _ _ (nin1 nTJ) gT8), rT8⟩⟩, fun y h1 h2 h3 h4 h5 => ((congrFun em' y).symm.trans (jm' y h4 h5)).trans (f3 y h1 h2 h3 h4 h5), G8.keepB cB (al2 B.ln lo2), ?_⟩
      rw [hft, show fi + ((i + 1 : Nat) : Int) = fi + i + 1 by exact Mine.q49]
      exact ⟨H8.setD cB (al2 (.inr oL) (.inl rfl)) ⟨_, _, _, _, _, _, _, N12.get (by k_mem)⟩, ⟨us', un', cB _ _ (nin2 nRL oR.d) gR8, hus'⟩, fun b o f nr e => cB b o (nin2 (neF B.lf e) f.d) (kb' b o (nin1 (neF fJ e)) (jK' b o f nr e))⟩
  · rintro m h hh tk7 ⟨jm, jG, jH, ⟨us, un, gR, hus⟩, jK⟩ kb hn7
    have etk : ns.take vs.toArray.size = ns := List.take_of_length_le (by rw [List.size_toArray, hlen]; exact Nat.le_refl _)
    rw [etk, List.size_toArray, hlen] at jH
    rw [etk] at hus
    refine wpAny_execs_nil ?_
    exact hQ2 _ <| ret _ _ us un (fun b o f nr e => kb b o (nin1 (neF fI e)) (jK b o f nr e)) (jH.keep kb (List.forall_mem_singleton.mpr oI)) (kb _ _ (nin1 nRI) gR) hus (jG.keepB kb (List.forall_mem_singleton.mpr bI)))
end Mine
end
section
open PySem PySem.W PyProof.Rows PySem.Calls PySem.Spec
set_option Elab.async false
set_option maxRecDepth 100000
set_option maxHeartbeats 4000000
namespace Mine
/-- an exception is noted in a frame that lies over others: their slots alone turn -/
theorem noteMany {M : Model} {A : Around} {E : Value → Shared → Prop} {s : Shared} {base : Heap} {env : Env} {outer : List Env} {L e : Addr} {oe : Obj} {vs : Array Value} {Q : Unit → Shared → Prop} (hfr : A.frames = some (env :: outer)) (hl : s.heap.FunFrames base (env :: outer)) (hf : env.frame = some L)
    (he : s.heap.get? e = some oe) (hd : oe.data = .fields vs) (h1 : vs[1]? = some .none)
    (h : ∀ h' tb pl, IsPlace pl → (∀ b o, b ∉ (env :: outer).filterMap (·.frame) → b ≠ e → s.heap.get? b = some o → h'.get? b = some o) → (∀ b o, b ≠ e → s.heap.get? b = some o → ∃ sl, h'.get? b = some { o with slots := sl }) → s.heap.objs.size ≤ tb →
      h'.get? e = some (oe.mapFields (·.setIfInBounds 1 (.ref tb))) → h'.get? tb = some { cls := .type "traceback", dict := none, data := .fields ([Value.none, .ref L, .none, rawInt L, .none] ++ (if pl.isEmpty then List.replicate 6 Value.none else pl)).toArray } →
      Q () { s with heap := h' }) : wpAny M A (noteFrame (.ref e) env) Q E s := by
  have hsz : 1 < vs.size := (Array.getElem?_eq_some_iff.mp h1).1
  have hene : e ∉ (env :: outer).filterMap (·.frame) := fun hm => by
    obtain ⟨_, o, ho, hnf⟩ := hl.mem hm
    rw [he] at ho; injection ho with ho; subst ho; exact hnf vs hd
  unfold noteFrame
  simp only [hf]
  refine wpAny_bind (wpAny_field he hd h1 ?_)
  rw [if_neg (by decide)]
  refine wpAny_bind (wpAny_frameOf_fun hfr hl hf fun h₁ hs₁ => ?_)
  refine wpAny_bind (wpAny_entryPlaceOf fun pl hpl => ?_)
  unfold EntryCells.newEntry newFields
  refine wpAny_bind (wpAny_newObj_type ?_ (hpl.sizeOk5 _ _ _ _ _))
  have he₁ : h₁.get? e = some oe := (hs₁.2.1 e hene).trans he
  have he₂ := Heap.get?_push_of_some (h := h₁) { cls := .type "traceback", dict := none, data := .fields ([Value.none, .ref L, .none, rawInt L, .none] ++ (if pl.isEmpty then List.replicate 6 Value.none else pl)).toArray } he₁
  refine wpAny_setField he₂ hd hsz ?_
  have hTe : h₁.objs.size ≠ e := Nat.ne_of_gt (Heap.lt_size he₁)
  have hd₃ := Obj.data_mapFields hd (·.setIfInBounds 1 (Value.ref h₁.objs.size))
  refine h _ h₁.objs.size pl hpl (fun b o hbL hbe hb => ?_) (fun b o hbe hb => ?_) (Nat.le_of_eq hs₁.1.symm) (Heap.get?_update_self _ he₂ (Obj.isFreed_of_fields hd₃)) ?_
  · rw [Heap.get?_update_other _ _ (Ne.symm hbe)]
    exact Heap.get?_push_of_some _ ((hs₁.2.1 b hbL).trans hb)
  · obtain ⟨sl, q⟩ := hs₁.2.2 b o hb
    refine ⟨sl, ?_⟩
    rw [Heap.get?_update_other _ _ (Ne.symm hbe)]
    exact Heap.get?_push_of_some _ q
  · rw [Heap.get?_update_other _ _ (Ne.symm hTe)]
    exact Heap.get?_push_size h₁ rfl
end Mine
end
section
open PySem PySem.W PyProof.Rows PySem.Calls PySem.Spec
set_option Elab.async false
set_option maxRecDepth 100000
set_option maxHeartbeats 4000000
namespace Mine
theorem cb_next (a : Value) : checkBoundCall "list_iterator.__next__" ⟨[a], []⟩ = pure () := by kernel_rfl
noncomputable abbrev mwObj (I : Addr) : Obj := { cls := .type "method-wrapper", data := .fields #[.builtin "list_iterator.__next__", .ref I] }
section
variable {prog : Program} {w : World} {A : Around} {E : Value → Shared → Prop} {s : Shared}
theorem code_mw {R : Result → Shared → Prop} {a I : Addr} (ho : s.heap.get? a = some (mwObj I))
    (h : codeAny (model prog w) A (.builtin "list_iterator.__next__" ⟨[.ref I], []⟩) R s) : codeAny (model prog w) A (.call (.ref a) ⟨[], []⟩) R s := by
  refine codeAny_of_tree ?_
  show wpAny _ A.in1 (callAny (.ref a) ⟨[], []⟩) _ _ s
  simp only [callAny]
  refine wpAny_bind (wpAny_load ho ?_)
  show wpAny _ _ (checkBoundCall "list_iterator.__next__" ⟨[.ref I], []⟩ >>= _) _ _ s
  rw [cb_next]
  refine wpAny_bind (wpAny_pure ?_)
  exact wpAny_pure ⟨plainId_quiet slot_listiter_next.plain _, h⟩
theorem mw_item {Q : Value → Shared → Prop} {a I l : Addr} {i : Nat} {items : Array Value} {x : Value} (ho : s.heap.get? a = some (mwObj I)) (hit : s.heap.IsListIter I l i) (hl : s.heap.IsList l items) (hx : items[i]? = some x)
    (hQ : ∀ h', h'.IsListIter I l (i + 1) → Heap.SameBut I s.heap h' → Q x { s with heap := h' }) : wpAny (model prog w) A (call (.ref a) []) Q E s := by
  refine wpAny_call (code_mw ho (codeAny_builtin entry_listiter_next ?_))
  obtain ⟨o, hoI, hc, hd⟩ := id hit
  obtain ⟨ol, hol, _, nl, hdl⟩ := hl
  show wpAny _ _ (field (.ref I) 0 >>= _) _ _ s
  refine wpAny_bind (wpAny_field hoI hd (x := .ref l) rfl ?_)
  show wpAny _ _ (if (Value.ref l == Value.none) = true then _ else _) _ _ s
  rw [if_neg (show ¬ ((Value.ref l == Value.none) = true) from Bool.false_ne_true)]
  show wpAny _ _ (field (.ref I) 1 >>= _) _ _ s
  refine wpAny_bind (wpAny_field hoI hd (x := .int i 0) rfl ?_)
  show wpAny _ _ (seqItems? (.ref l) >>= _) _ _ s
  refine wpAny_bind (wpAny_seqItems hol hdl ?_)
  simp only [Int.toNat_natCast, hx]
  refine wpAny_bind (wpAny_setField hoI hd (by simp) (wpAny_pure (hQ _ ?_ (Heap.SameBut.update ..))))
  exact ⟨_, Heap.get?_update_self _ hoI (Obj.isFreed_of_fields (Obj.data_mapFields hd _)), (Obj.cls_mapFields ..).trans hc, by
    rw [Obj.data_mapFields hd]; simp [rawInt]⟩
theorem mw_end {Q : Value → Shared → Prop} {a I l : Addr} {i : Nat} {items : Array Value} (hh : A.handled = none) (ho : s.heap.get? a = some (mwObj I)) (hit : s.heap.IsListIter I l i) (hl : s.heap.IsList l items) (hx : items[i]? = none)
    (hE : ∀ h' e oe vs, Heap.ExtBut I s.heap h' → h'.get? e = some oe → oe.cls = .type "StopIteration" → oe.data = .fields vs → vs[1]? = some .none → s.heap.objs.size ≤ e → E (.ref e) { s with heap := h' }) : wpAny (model prog w) A (call (.ref a) []) Q E s := by
  refine wpAny_call (code_mw ho (codeAny_builtin entry_listiter_next ?_))
  obtain ⟨o, hoI, hc, hd⟩ := id hit
  obtain ⟨ol, hol, _, nl, hdl⟩ := hl
  show wpAny _ _ (field (.ref I) 0 >>= _) _ _ s
  refine wpAny_bind (wpAny_field hoI hd (x := .ref l) rfl ?_)
  show wpAny _ _ (if (Value.ref l == Value.none) = true then _ else _) _ _ s
  rw [if_neg (show ¬ ((Value.ref l == Value.none) = true) from Bool.false_ne_true)]
  show wpAny _ _ (field (.ref I) 1 >>= _) _ _ s
  refine wpAny_bind (wpAny_field hoI hd (x := .int i 0) rfl ?_)
  show wpAny _ _ (seqItems? (.ref l) >>= _) _ _ s
  refine wpAny_bind (wpAny_seqItems hol hdl ?_)
  simp only [Int.toNat_natCast, hx]
  refine wpAny_bind (wpAny_rule (wpAny_bind (wpAny_setField hoI hd (by simp) ?_)))
  show wpAny _ _ (newExc (.type "StopIteration") [] >>= _) _ _ _
  refine wpAny_bind ?_
  simp only [newExc, newTuple]
  refine wpAny_bind (wpAny_newObj_type ?_ (by size_fits))
  refine wpAny_bind (m := firstArgMember _ _) (wpAny_of_eq (a := Value.none) (by first | rfl | (simp only [firstArgMember]; rfl)) ?_)
  refine wpAny_newObj_type ?_ (by size_fits)
  simp only [raiseNew]
  refine wpAny_bind (wpAny_handled ?_)
  rw [show (A.under (.builtin "list_iterator.__next__" ⟨[.ref I], []⟩)).handled = none from hh]
  refine wpAny_bind (wpAny_pure (wpAny_throw ?_))
  refine hE _ _ _ _ (((Heap.SameBut.update ..).extBut.push _).push _) (Heap.get?_push_size _ rfl) rfl rfl rfl ?_
  rw [Heap.size_push]
  exact Nat.le_trans (Nat.le_of_eq (Heap.SameBut.update ..).1.symm) (Nat.le_succ _)
end
end Mine
end
section
open PySem PySem.W PyProof.Rows PySem.Calls PySem.Spec
set_option Elab.async false
set_option maxRecDepth 100000
set_option maxHeartbeats 4000000
namespace Mine
theorem lk_ga : typeLookup (.type "list_iterator") "__getattribute__" = pure (some (.builtin "object.__getattribute__")) := by rw [typeLookup_type, builtinLookup_eq_fast]; kernel_rfl
theorem lk_next : typeLookup (.type "list_iterator") "__next__" = pure (some (.builtin "list_iterator.__next__")) := by rw [typeLookup_type, builtinLookup_eq_fast]; kernel_rfl
theorem ty_next : typeOf (.builtin "list_iterator.__next__") = pure (.type "wrapper_descriptor") := by show builtinType _ = _; rw [builtinType_eq_fast]; kernel_rfl
theorem lk_get : typeLookup (.type "wrapper_descriptor") "__get__" = pure (some (.builtin "wrapper_descriptor.__get__")) := by rw [typeLookup_type, builtinLookup_eq_fast]; kernel_rfl
theorem lk_set : typeLookup (.type "wrapper_descriptor") "__set__" = pure none := by rw [typeLookup_type, builtinLookup_eq_fast]; kernel_rfl
theorem lk_del : typeLookup (.type "wrapper_descriptor") "__delete__" = pure none := by rw [typeLookup_type, builtinLookup_eq_fast]; kernel_rfl
theorem sl_ga : Slot "list_iterator" "__getattribute__" "object.__getattribute__" :=
  .of (owner := "object") (n := "__getattribute__") (by rw [typeLookup_type, builtinLookup_eq_fast]; kernel_rfl) (by decide +kernel) (by decide +kernel) (by decide +kernel)
    (by first | exact .inl (by decide +kernel) | exact .inr (by decide +kernel)) (by rw [isSubtype_type]; kernel_rfl)
theorem en_ga : entryFor table "object.__getattribute__" = some Builtin.«object.__getattribute__» := entryFor_of_tree (by kernel_rfl)
theorem ar_ga (a b : Value) : argsOk "object.__getattribute__" ⟨[a, b], []⟩ := by unfold argsOk; kernel_rfl
theorem sl_get : Slot "wrapper_descriptor" "__get__" "wrapper_descriptor.__get__" :=
  .of (owner := "wrapper_descriptor") (n := "__get__") (by rw [typeLookup_type, builtinLookup_eq_fast]; kernel_rfl) (by decide +kernel) (by decide +kernel) (by decide +kernel)
    (by first | exact .inl (by decide +kernel) | exact .inr (by decide +kernel)) (by rw [isSubtype_type]; kernel_rfl)
theorem en_get : entryFor table "wrapper_descriptor.__get__" = some Builtin.«wrapper_descriptor.__get__» := entryFor_of_tree (by kernel_rfl)
theorem ar_get (a b c : Value) : argsOk "wrapper_descriptor.__get__" ⟨[a, b, c], []⟩ := by unfold argsOk; kernel_rfl
theorem ow_next : isSubtype (.type "list_iterator") (.type (".".intercalate ("list_iterator.__next__".cutAt '.').dropLast)) = pure true := by
  rw [show ".".intercalate ("list_iterator.__next__".cutAt '.').dropLast = "list_iterator" by decide +kernel, isSubtype_type]; kernel_rfl
section
variable {prog : Program} {w : World} {A : Around} {E : Value → Shared → Prop} {h : Heap} {g : Array GenState} {d : Drawn} {t : Nat} {os : OsState} {a : Addr} {o : Obj}
theorem ga_by {tk : Tok} {Q : Value → Shared → Prop} {vs : Array Value} {sl : Array (Option Value)} (hx : h.get? a = some ⟨.type "list_iterator", none, .fields vs, sl⟩) (hq : Q (.ref h.objs.size) ⟨h.push (mwObj a), g, d, t, os⟩) : wpAny (model prog w) A (getAttrBy (.ref a) (.str "__next__" tk) true true) Q E ⟨h, g, d, t, os⟩ := by
  have hT : (⟨h, g, d, t, os⟩ : Shared).TypeIs (.ref a) "list_iterator" := ⟨_, hx, rfl⟩
  have f2 := sl_ga.lookup
  have f3 := sl_ga.bind (.ref a)
  repeat (any_goals (first | assumption | wp_step))
  refine codeAny_call_builtin sl_ga.plain en_ga (sl_ga.check _ _ _ _ _ _ _ _ hT (ar_ga _ _) ?_)
  have f4 := lk_next
  have f5 := ty_next
  have hT5 : (⟨h, g, d, t, os⟩ : Shared).TypeIs (.builtin "list_iterator.__next__") "wrapper_descriptor" := ty_next
  have f6 := lk_get
  have f7 := lk_set
  have f8 := lk_del
  repeat (any_goals (first | assumption | wp_step))
  refine codeAny_call_builtin sl_get.plain en_get (sl_get.check _ _ _ _ _ _ _ _ hT5 (ar_get _ _ _) ?_)
  have f9 := ow_next
  repeat (any_goals (first | assumption | wp_step))
end
end Mine
end
section
namespace Mine
/-! the look for a ring: what holds between the steps -/
noncomputable def lft (su : Int → List Int) (ord seen : List Int) : Nat := ((ord.filter fun k => decide (k ∉ seen)).map fun k => (su k).length + 1).sum
noncomputable def und (su : Int → List Int) (l : List (Int × Nat)) : Nat := (l.map fun e => (su e.1).length - e.2).sum
theorem lft_le (su : Int → List Int) (seen : List Int) (x : Int) : ∀ ord, lft su ord (seen ++ [x]) ≤ lft su ord seen
  | [] => Nat.le_refl _
  | k :: r => by
    have ih := lft_le su seen x r
    unfold lft at ih ⊢
    rw [List.filter_cons, List.filter_cons]
    by_cases h1 : k ∈ seen
    · have h2 : k ∈ seen ++ [x] := List.mem_append_left _ h1
      simp only [h1, h2, not_true, decide_false, if_neg Bool.false_ne_true]
      exact ih
    · by_cases h2 : k ∈ seen ++ [x]
      · simp only [h1, h2, not_true, not_false_eq_true, decide_true, decide_false, if_neg Bool.false_ne_true, if_true, List.map_cons, List.sum_cons]
        exact Mine.q51 ih
      · simp only [h1, h2, not_false_eq_true, decide_true, if_true, List.map_cons, List.sum_cons]
        exact Mine.q53 ih
theorem lft_push (su : Int → List Int) {seen : List Int} {x : Int} (hx : x ∉ seen) : ∀ {ord}, x ∈ ord → lft su ord (seen ++ [x]) + ((su x).length + 1) ≤ lft su ord seen
  | [], h => absurd h List.not_mem_nil
  | k :: r, h => by
    have hm := lft_le su seen x r
    by_cases e : k = x
    · subst e
      unfold lft at hm ⊢
      rw [List.filter_cons, List.filter_cons]
      have h2 : k ∈ seen ++ [k] := List.mem_append_right _ (.head _)
      simp only [hx, h2, not_true, not_false_eq_true, decide_true, decide_false, if_neg Bool.false_ne_true, if_true, List.map_cons, List.sum_cons]
      exact Mine.q50 hm
    · have ih := lft_push su hx (ord := r) ((List.mem_cons.mp h).resolve_left fun q => e q.symm)
      have he : (k ∈ seen ++ [x]) = (k ∈ seen) := by simp [e]
      unfold lft at ih ⊢
      rw [List.filter_cons, List.filter_cons]
      simp only [he]
      by_cases h1 : k ∈ seen
      · simp only [h1, not_true, decide_false, if_neg Bool.false_ne_true]
        exact ih
      · simp only [h1, not_false_eq_true, decide_true, if_true, List.map_cons, List.sum_cons]
        exact Mine.q52 ih
structure FI (su : Int → List Int) (ord seen fin : List Int) (nx : Option Int) (l : List (Int × Nat)) : Prop where
  ok : Ok su fin nx l
  fn : Fin su fin
  nd : fin.Nodup
  ns : (l.map (·.1)).Nodup
  se : ∀ p, p ∈ seen ↔ p ∈ fin ∨ p ∈ l.map (·.1)
  dj : ∀ p ∈ fin, p ∉ l.map (·.1)
  so : ∀ p ∈ seen, p ∈ ord
  sn : seen.Nodup
section
variable {su : Int → List Int} {ord seen fin : List Int} {x s : Int} {c : Nat} {l r : List (Int × Nat)}
theorem FI.nil : FI su ord [] [] none [] := ⟨trivial, .nil, List.nodup_nil, List.nodup_nil, fun _ => ⟨fun h => absurd h List.not_mem_nil, fun h => h.elim id id⟩, fun _ h => absurd h List.not_mem_nil, fun _ h => absurd h List.not_mem_nil, List.nodup_nil⟩
theorem FI.start (h : FI su ord seen fin none []) (x : Int) : FI su ord seen fin (some x) [] := ⟨trivial, h.fn, h.nd, h.ns, h.se, h.dj, h.so, h.sn⟩
theorem FI.settle (h : FI su ord seen fin (some x) l) (hx : x ∈ seen) (hn : x ∉ l.map (·.1)) : FI su ord seen fin none l :=
  ⟨h.ok.settle (fun _ q => q) (((h.se x).mp hx).resolve_right hn), h.fn, h.nd, h.ns, h.se, h.dj, h.so, h.sn⟩
theorem FI.push (h : FI su ord seen fin (some x) l) (hx : x ∉ seen) (ho : x ∈ ord) : FI su ord (seen ++ [x]) fin none ((x, 0) :: l) := by
  have h1 : x ∉ fin := fun q => hx ((h.se x).mpr (.inl q))
  have h2 : x ∉ l.map (·.1) := fun q => hx ((h.se x).mpr (.inr q))
  refine ⟨h.ok.push, h.fn, h.nd, List.nodup_cons.mpr ⟨h2, h.ns⟩, fun p => ?_, fun p hp hq => ?_, fun p hp => ?_, ?_⟩
  · rw [List.mem_append, List.mem_singleton, h.se p, List.map_cons, List.mem_cons]
    constructor
    · rintro ((q | q) | q)
      · exact .inl q
      · exact .inr (.inr q)
      · exact .inr (.inl q)
    · rintro (q | q | q)
      · exact .inl (.inl q)
      · exact .inr q
      · exact .inl (.inr q)
  · rcases List.mem_cons.mp hq with q | q
    · exact h1 (show x ∈ fin from (show p = x from q) ▸ hp)
    · exact h.dj p hp q
  · rcases List.mem_append.mp hp with q | q
    · exact h.so p q
    · rw [List.mem_singleton.mp q]; exact ho
  · refine List.nodup_append.mpr ⟨h.sn, List.nodup_cons.mpr ⟨List.not_mem_nil, List.nodup_nil⟩, fun a ha b hb e => ?_⟩
    rw [List.mem_singleton.mp hb] at e
    exact hx (e ▸ ha)
theorem FI.draw (h : FI su ord seen fin none ((s, c) :: r)) (hx : (su s)[c]? = some x) : FI su ord seen fin (some x) ((s, c + 1) :: r) := ⟨h.ok.draw hx, h.fn, h.nd, h.ns, h.se, h.dj, h.so, h.sn⟩
theorem FI.pop (h : FI su ord seen fin none ((s, c) :: r)) (hc : (su s)[c]? = none) : FI su ord seen (fin ++ [s]) none r := by
  have hn := List.nodup_cons.mp h.ns
  have hs : s ∉ fin := fun q => h.dj s q (.head _)
  refine ⟨Ok.settle (fun _ q => List.mem_append_left _ q) (List.mem_append_right _ (.head _)) h.ok.2.2.2, h.fn.snoc (h.ok.drawn hc), ?_, hn.2, fun p => ?_, fun p hp hq => ?_, h.so, h.sn⟩
  · refine List.nodup_append.mpr ⟨h.nd, List.nodup_cons.mpr ⟨List.not_mem_nil, List.nodup_nil⟩, fun a ha b hb e => ?_⟩
    rw [List.mem_singleton.mp hb] at e
    exact hs (e ▸ ha)
  · rw [h.se p, List.map_cons, List.mem_cons, List.mem_append, List.mem_singleton, or_assoc]
  · rcases List.mem_append.mp hp with q | q
    · exact h.dj p q (.tail _ hq)
    · rw [List.mem_singleton.mp q] at hq; exact hn.1 hq
theorem FI.ring (h : FI su ord seen fin (some x) l) (hx : x ∈ l.map (·.1)) : ∃ C : List Int, x ∈ C ∧ (∀ p ∈ C, p ∈ ord) ∧ ∀ p ∈ C, ∃ q ∈ C, p ∈ su q := by
  obtain ⟨C, a, b, c, d⟩ := h.ok.ring hx
  refine ⟨C, a, fun p hp => h.so p ((h.se p).mpr (.inr (b p hp))), fun p hp => ?_⟩
  by_cases e : p = x
  · subst e; exact c
  · exact d p hp e
theorem FI.len (h : FI su ord seen fin (none : Option Int) l) : l.length ≤ ord.length := by
  rw [← List.length_map (f := (·.1))]
  exact nodup_le h.ns fun p hp => h.so p ((h.se p).mpr (.inr hp))
theorem FI.len' {nx : Option Int} (h : FI su ord seen fin nx l) : l.length ≤ ord.length ∧ seen.length ≤ ord.length := by
  rw [← List.length_map (f := (·.1)) (as := l)]
  exact ⟨nodup_le h.ns fun p hp => h.so p ((h.se p).mpr (.inr hp)), nodup_le h.sn h.so⟩
theorem und_draw {r : List (Int × Nat)} (hx : (su s)[c]? = some x) : und su ((s, c + 1) :: r) < und su ((s, c) :: r) := by
  have := (List.getElem?_eq_some_iff.mp hx).1
  unfold und
  rw [List.map_cons, List.map_cons, List.sum_cons, List.sum_cons]
  dsimp only
  exact Mine.q55 this
theorem und_pop {r : List (Int × Nat)} : und su r ≤ und su ((s, c) :: r) := by
  unfold und
  rw [List.map_cons, List.sum_cons]
  exact Mine.q54
theorem und_push (hx : x ∉ seen) (ho : x ∈ ord) : lft su ord (seen ++ [x]) + und su ((x, 0) :: l) < lft su ord seen + und su l := by
  have := lft_push su hx ho
  unfold und
  rw [List.map_cons, List.sum_cons]
  dsimp only
  exact Mine.q56 this
end
end Mine
end
section
open PySem PySem.W PyProof.Rows PySem.Calls PySem.Spec
set_option Elab.async false
set_option maxRecDepth 100000
set_option maxHeartbeats 4000000
namespace Mine
/-- the frames that lie below: their slots alone may turn -/
noncomputable abbrev frs (es : List Env) : List Addr := es.filterMap (·.frame)
structure KpS (fr : List Addr) (h h' : Heap) : Prop where
  kp : KpB fr h h'
  sl : ∀ b o, h.get? b = some o → ∃ sl, h'.get? b = some { o with slots := sl }
theorem KpS.of {fr : List Addr} {h h' : Heap} (k : Kp h h') : KpS fr h h' := ⟨k.b, fun b o e => ⟨o.slots, k b o e⟩⟩
theorem KpS.trans {fr : List Addr} {a b c : Heap} (x : KpS fr a b) (y : KpS fr b c) : KpS fr a c := ⟨x.kp.trans y.kp, fun p o e => let ⟨_, e₁⟩ := x.sl p o e; let ⟨sl, e₂⟩ := y.sl p _ e₁; ⟨sl, e₂⟩⟩
/-- what is written lies above -/
theorem KpS.up {fr W : List Addr} {h₀ h h' : Heap} (x : KpS fr h₀ h) (k : KpB W h h') (hW : ∀ a ∈ W, h₀.get? a = none) : KpS fr h₀ h' := by
  have no {b : Addr} {o : Obj} (e : h₀.get? b = some o) : b ∉ W := fun q => by rw [hW b q] at e; cases e
  exact ⟨fun b o hb e => k b o (no e) (x.kp b o hb e), fun b o e => let ⟨sl, e₁⟩ := x.sl b o e; ⟨sl, k b _ (no e) e₁⟩⟩
structure Frs (A : Around) (es : List Env) (n₀ : Nat) (h : Heap) : Prop where
  fr : A.frames = some es
  ff : h.FunFrames {} es
  lo : ∀ a ∈ frs es, n₀ ≤ a
theorem Frs.keep {A : Around} {es : List Env} {n₀ : Nat} {h h' : Heap} (f : Frs A es n₀ h) {fr : List Addr} (k : KpS fr h h') : Frs A es n₀ h' :=
  ⟨f.fr, f.ff.of_keeps fun b o e _ => let ⟨_, q⟩ := k.sl b o e; ⟨_, q, rfl⟩, f.lo⟩
theorem Frs.push {A A' : Around} {es : List Env} {env : Env} {n₀ : Nat} {h h' : Heap} {fr : List Addr} {L : Addr} {m : Str → Option Value} (f : Frs A es n₀ h) (k : KpS fr h h') (hA : A'.frames = some (env :: es)) (hf : env.frame = some L) (hk : env.scope.kind = .function) (hn : h'.Ns L m) (hL : n₀ ≤ L) : Frs A' (env :: es) n₀ h' := by
  refine ⟨hA, Heap.FunFrames.cons (by rw [hk]; intro q; cases q) hf hn rfl (f.keep k).ff, fun a ha => ?_⟩
  rw [frs, List.filterMap_cons, hf] at ha
  rcases List.mem_cons.mp ha with rfl | ha
  · exact hL
  · exact f.lo a ha
theorem Gd.keepS {w : World} {n₀ : Nat} {h h' : Heap} {A : Around} {es : List Env} (G : Gd w n₀ h) (f : Frs A es n₀ h) (k : KpS (frs es) h h') : Gd w n₀ h' := G.keepB k.kp f.lo
theorem ns_slots {h h' : Heap} {L : Addr} {m : Str → Option Value} (hn : h.Ns L m) (k : ∀ o, h.get? L = some o → ∃ sl, h'.get? L = some { o with slots := sl }) : h'.Ns L m := by
  obtain ⟨o, es, ep, ho, hd, r⟩ := hn
  obtain ⟨sl, q⟩ := k o ho
  exact ⟨_, es, ep, q, hd, r⟩
/-- a set's own object -/
noncomputable def IsSet (prog : Program) (w : World) (o : Obj) (S : List Int) : Prop :=
  ∃ es ep t, o.ExactSet ∧ o.data = .set es ep t ∧ ElemsOf (intKind prog w) es.toList ∧ (∀ k, decide (k ∈ S) = true ↔ ∃ e ∈ es.toList, (intKind prog w).is k e.2 = true) ∧ es.size < scanBound ∧ t.fits es.size = true ∧ es.size = S.length
theorem IsSet.of {prog : Program} {w : World} {h : Heap} {a : Addr} {o : Obj} {S : List Int} (x : IsSet prog w o S) (e : h.get? a = some o) : h.SetOf (intKind prog w) a (fun k => decide (k ∈ S)) S.length :=
  let ⟨es, ep, t, r⟩ := x; ⟨o, es, ep, t, e, r⟩
theorem isSet_of {prog : Program} {w : World} {h : Heap} {a : Addr} {S : List Int} (x : h.SetOf (intKind prog w) a (fun k => decide (k ∈ S)) S.length) : ∃ o, h.get? a = some o ∧ IsSet prog w o S :=
  let ⟨o, es, ep, t, e, r⟩ := x; ⟨o, e, es, ep, t, r⟩
section
variable {prog : Program} {w : World} {A : Around} {E : Value → Shared → Prop} {s : Shared} {h₀ : Heap} {L d : Addr} {m : Str → Option Value} {news : List (Addr × Obj)} {g : Obj → List (Addr × Obj)} {o : Obj} {S : List Int} {k : Int} {t : Tok}
theorem ks_in {Q : Value → Shared → Prop} (N : News h₀ L s.heap news) (hm : (d, o) ∈ news) (ho : IsSet prog w o S) (h : Q (.bool (decide (k ∈ S))) { s with toks := s.toks + 1 }) : wpAny (model prog w) A (compareOp .In (.int k t) (.ref d)) Q E s :=
  wpAny_inSet_of (ik k t) rfl (ho.of (N _ hm).1) h
theorem ks_method {pl : Sem Bool} {Q : Value × List Value → Shared → Prop} (N : News h₀ L s.heap news) (hm : (d, o) ∈ news) (ho : IsSet prog w o S) (h : Q (.builtin "set.add", [.ref d]) s) : wpAny (model prog w) A (getMethod (.ref d) "add" pl) Q E s :=
  getMethod_set_add (ho.of (N _ hm).1) h
theorem ks_add {Q : Value → Shared → Prop} (F : Fr h₀ L s.heap m) (N : News h₀ L s.heap news) (U : UpdF d o news g) (ho : IsSet prog w o S) (hk : k ∉ S) (hz : S.length ≤ 1000)
    (h : ∀ h' o', Fr h₀ L h' m → News h₀ L h' (g o') → IsSet prog w o' (S ++ [k]) → Q .none { s with heap := h', toks := s.toks + 1 }) : wpAny (model prog w) A (call (.builtin "set.add") [.ref d, .int k t]) Q E s := by
  obtain ⟨own, rest, rfl, hg, h1, h2⟩ := U.split
  have hm := N (d, o) (List.mem_append_right _ (.head _))
  refine call_set_add (ik k t) rfl (ho.of hm.1) (by show S.length + 1 < 4096; exact Mine.q57 hz) fun h' hs hS' => ?_
  have e1 : (fun k' => decide (k' ∈ S) || decide (k' = k)) = fun k' => decide (k' ∈ S ++ [k]) := funext fun k' => by simp
  have e2 : (if decide (k ∈ S) = true then S.length else S.length + 1) = (S ++ [k]).length := by rw [if_neg (by simpa using hk), List.length_append]; rfl
  rw [e1, e2] at hS'
  obtain ⟨o', ho', hd'⟩ := isSet_of hS'
  exact h h' o' (F.change hs hm.2.1 hm.2.2) (hg o' ▸ N.setIn h1 h2 hs ho') hd'
end
/-- a for with what may stop it -/
theorem forR {prog : Program} {w : World} {A : Around} {s₂ : Shared} {env : Env} {R : Result → Shared → Prop} {x : Str} {px : Pos} {body orelse : List Stmt} {I : Addr} {fp wr : List Addr} {n : Nat} {P : Nat → Value → Prop} {St : Nat → Heap → Prop} {m : Str → Option Value}
    (J : Nat → (Str → Option Value) → Heap → Prop) (W : Walks prog w A I fp wr n P St) (hx : env.kindOf x = some .local) (hp : (env.scope.kind == .class || (env.scope.kind == .module && env.locals != env.globals)) = false)
    (hL : env.locals ∉ fp) (st : St 0 s₂.heap) (hn : s₂.heap.Ns env.locals m) (j : J 0 m s₂.heap)
    (turn : ∀ (PT : Flow → Shared → Prop) (PE : Value → Shared → Prop) i v m h h₂ tk, (∀ f s₃, Turned s₂ env.locals St J i f s₃ → PT f s₃) → (∀ v s₃, R (.ok (.ret v)) s₃ → PT (.ret v) s₃) → (∀ s₃, R (.ok .next) s₃ → PT .brk s₃) → i < n → P i v → J i m h → KpB (env.locals :: wr) h h₂ → h₂.Ns env.locals (fun y => if y = x then some v else m y) → St (i + 1) h₂ →
      wpAny (model prog w) A (execs body env) PT PE { s₂ with heap := h₂, toks := tk })
    (done : ∀ (PE : Value → Shared → Prop) m h h' tk, J n m h → KpB wr h h' → h'.Ns env.locals m → wpAny (model prog w) A (execs orelse env) (fun f s₃ => R (.ok f) s₃) PE { s₂ with heap := h', toks := tk }) :
    codeAny (model prog w) A (.forLoop (.Name x px) (.ref I) body orelse env) R s₂ := by
  have hLw : env.locals ∉ wr := fun h => hL (W.sub _ h)
  refine codeAny_forLoop (fun k s' => ∃ i h tk m, s' = { s₂ with heap := h, toks := tk } ∧ k = n - i ∧ i ≤ n ∧ St i h ∧ h.Ns env.locals m ∧ J i m h) ?_ n ⟨0, s₂.heap, s₂.toks, m, rfl, rfl, Nat.zero_le _, st, hn, j⟩
  rintro k s' ⟨i, h, tk, m, rfl, rfl, hi, sti, hni, ji⟩
  by_cases hlt : i < n
  · refine W.item i _ _ _ hlt sti fun v h₁ tk₁ hP st₁ hk₁ => ?_
    refine wpAny_assign_Name (wpAny_storeName_local hx (hni.at' fun o e => hk₁ _ o hLw e) (fun h₂ hn₂ hs₂ => ?_) hp)
    refine turn _ _ i v m h h₂ _ (fun f s₃ q => ?_) (fun _ _ q => q) (fun _ q => q) hlt hP ji (fun b o hb e => hs₂.extBut b o (fun q => hb (q ▸ .head _)) (hk₁ b o (fun q => hb (.tail _ q)) e)) hn₂ (W.frame _ _ _ st₁ fun b hb o e => hs₂.extBut b o (fun q => hL (q ▸ hb)) e)
    obtain ⟨hf, h₃, tk₃, m₃, rfl, n3, st3, j3⟩ := q
    rcases hf with rfl | rfl <;> exact ⟨n - (i + 1), by exact Mine.q14 hlt, i + 1, h₃, tk₃, m₃, rfl, rfl, hlt, st3, n3, j3⟩
  · obtain rfl : i = n := Nat.le_antisymm hi (Nat.le_of_not_lt hlt)
    exact W.done _ _ _ sti fun h₁ tk₁ hk₁ => done _ m h h₁ tk₁ ji hk₁ (hni.at' fun o e => hk₁ _ o hLw e)
section
variable {prog : Program} {w : World} {n₀ : Nat} {A : Around} {s : Shared} {R : Result → Shared → Prop} {name qual : Str} {params : Arguments} {body : List Stmt} {scope : Scope} {dV kV doc pm cdv ct oc : Value} {an od : Option Addr} {osl : Array (Option Value)} {f : Addr} {args : Args} {d u : Nat}
/-- startQ that knows the frames -/
theorem startF {K : Frag} (W : List (Addr × Obj)) (binds : List (Str × Value)) {es : List Env} (r : Rm A (d + 1) (u + 3)) (hfr : A.frames = some es) (KX : ∀ h, (Mine.hd.heap_1 w.params).In h → K.In h) (G : Gd w n₀ s.heap) (hs : n₀ ≤ s.heap.objs.size) (hW : AllAt s.heap n₀ W)
    (ho : K.lookup f = some ⟨oc, od, .func (fnOf name qual params body scope dV kV doc pm an cdv ct), osl⟩) (hcd : codeIn K cdv qual = true)
    (hbind : BindsTo s (fnOf name qual params body scope dV kV doc pm an cdv ct) args binds) (hloc : ∀ y ∈ binds, scope.names.lookup y.1 = some .local)
    (h : ∀ (A' : Around) (PQ : Flow → Shared → Prop) (PE : Value → Shared → Prop) h₁ h₀ L tail mean mg mb tk, A'.frames = some (envOf qual scope L f cdv :: es) → Rm A' d u → (∀ v s', R (.ok (.ret v)) s' → PQ (.ret v) s') → (∀ s', R (.ok (.ret .none)) s' → PQ .next s') →
      (∀ e s', wpAny (model prog w) A' (leaving (envOf qual scope L f cdv) e) (fun _ s'' => R (.error e) s'') (fun e' s'' => R (.error e') s'') s' → PE e s') →
      Std w n₀ s.heap W h₀ L tail → Fr h₀ L h₁ (fun y => binds.reverse.lookup y) → News h₀ L h₁ (W ++ tail) → K.In h₀ → Top V39 LO mean mg mb h₀ →
      wpAny (model prog w) A' (execs body (envOf qual scope L f cdv)) PQ PE { s with heap := h₁, toks := tk })
    (hco : scope.isCoroutine = false) (hgen : scope.isGenerator = false) (hk : scope.kind = .function)
    (hcell : ∀ x ∈ scope.names, x.2 ≠ .cell) : codeAny (model prog w) A (.call (.ref f) args) R s :=
  start W binds KX G hs hW ho hcd (by have := r.hd; exact Mine.q33 this) hbind hloc (fun h₁ h₀ L tail mean mg mb B F N X T => h _ _ _ h₁ h₀ L tail mean mg mb _ (Around.frames_deeper hfr) r.deeper (fun _ _ q => q) (fun _ q => q) (fun _ _ q => q) B F N X T) hco hgen hk hcell
end
section
variable {prog : Program} {w : World} {A : Around} {E : Value → Shared → Prop} {s : Shared} {env : Env} {st : Stmt} {rest : List Stmt} {Q : Flow → Shared → Prop}
/-- one statement, then the rest -/
theorem cutS (P : Shared → Prop) (h1 : ∀ PT : Flow → Shared → Prop, (∀ s', P s' → PT .next s') → (∀ v s', Q (.ret v) s' → PT (.ret v) s') → (∀ s', Q .cont s' → PT .cont s') → (∀ s', Q .brk s' → PT .brk s') → wpAny (model prog w) A (exec st env) PT E s)
    (h2 : ∀ s', P s' → wpAny (model prog w) A (execs rest env) Q E s') : wpAny (model prog w) A (execs (st :: rest) env) Q E s :=
  wpAny_execs_cons (h1 _ (fun s' h => h2 s' h) (fun _ _ h => h) (fun _ h => h) (fun _ h => h))
theorem lastS (h : ∀ PT : Flow → Shared → Prop, (∀ f s', Q f s' → PT f s') → wpAny (model prog w) A (exec st env) PT E s) : wpAny (model prog w) A (execs [st] env) Q E s :=
  wpAny_execs_cons (h _ fun f s' h => by cases f <;> first | exact wpAny_execs_nil h | exact h)
theorem whileQ {test : PySem.Expr} {body orelse : List Stmt} {pos : Pos} (I : Nat → Shared → Prop)
    (turn : ∀ (PT PO : Flow → Shared → Prop) (PE : Value → Shared → Prop) n s, (∀ m s₃, m < n → I m s₃ → PT .next s₃ ∧ PT .cont s₃) → (∀ s₃, Q .next s₃ → PT .brk s₃) → (∀ v s₃, Q (.ret v) s₃ → PT (.ret v) s₃) → (∀ f s₃, Q f s₃ → PO f s₃) → I n s →
      wpAny (model prog w) A (isTrue test env (eval test env)) (fun b s₂ => if b then wpAny (model prog w) A (execs body env) PT PE s₂ else wpAny (model prog w) A (execs orelse env) PO PE s₂) PE s)
    (n : Nat) (h : I n s) : wpAny (model prog w) A (exec (.While test body orelse pos) env) Q E s :=
  wpAny_While (codeAny_whileLoop I (fun n s hI => turn _ _ _ n s (fun m s₃ hm hI => ⟨⟨m, hm, hI⟩, ⟨m, hm, hI⟩⟩) (fun _ h => h) (fun _ _ h => h) (fun _ _ h => h) hI) n h)
/-- a test that is known -/
theorem cutB {test : PySem.Expr} {T F : Shared → Prop} (P : Bool → Shared → Prop) (h1 : ∀ PB : Bool → Shared → Prop, (∀ b s', P b s' → PB b s') → wpAny (model prog w) A (isTrue test env (eval test env)) PB E s)
    (h2 : ∀ b s', P b s' → if b then T s' else F s') : wpAny (model prog w) A (isTrue test env (eval test env)) (fun b s₂ => if b then T s₂ else F s₂) E s := h1 _ h2
/-- a try, its body first -/
theorem tryQ {body : List Stmt} {h₀ : ExceptHandler} {pos : Pos}
    (h : ∀ (PT : Flow → Shared → Prop) (PX : Value → Shared → Prop), (∀ f s', Q f s' → PT f s') →
      (∀ e s₁, wpAny (model prog w) A (noteFrame e env) (fun _ s₂ => wpAny (model prog w) A (setFlight e none) (fun _ s₃ => wpAny (model prog w) A (handleBy e env [h₀]) Q E s₃) E s₂) E s₁ → PX e s₁) → wpAny (model prog w) A (execs body env) PT PX s) :
    wpAny (model prog w) A (exec (.Try body [h₀] [] [] pos) env) Q E s :=
  wpAny_Try_except (h _ _ (fun f s' q => by cases f <;> first | exact wpAny_execs_nil q | exact q) fun _ _ q => q)
end
/-- x.__next__ of a list's iterator -/
theorem ga_next {prog : Program} {w : World} {A : Around} {E : Value → Shared → Prop} {s : Shared} {I l : Addr} {Q : Value → Shared → Prop} (hI : s.heap.get? I = some { cls := .type "list_iterator", data := .fields #[.ref l, .int 0 0] })
    (h : Q (.ref s.heap.objs.size) { s with heap := s.heap.push (mwObj I), toks := s.toks + 1 }) : wpAny (model prog w) A (getAttr (.ref I) (Str.ofString "__next__") true) Q E s := by
  unfold getAttr
  exact wpAny_bind (wpAny_mkText (ga_by hI h))
end Mine
end
section
open PySem PySem.W PyProof.Rows PySem.Calls PySem.Spec
set_option Elab.async false
set_option maxRecDepth 100000
set_option maxHeartbeats 4000000
namespace Mine
/-- an exception that has been noted in its frame -/
noncomputable def Noted (h : Heap) (e tb : Addr) (cls : Value) : Prop :=
  ∃ oe vs otb tvs, h.get? e = some oe ∧ oe.cls = cls ∧ oe.data = .fields vs ∧ vs[1]? = some (.ref tb) ∧ h.get? tb = some otb ∧ otb.data = .fields tvs ∧ 3 < tvs.size
/-- all but I is kept; of the frames the slots may turn -/
structure KpI (fr : List Addr) (I : Addr) (h h' : Heap) : Prop where
  kp : ∀ b o, b ≠ I → b ∉ fr → h.get? b = some o → h'.get? b = some o
  sl : ∀ b o, b ≠ I → h.get? b = some o → ∃ sl, h'.get? b = some { o with slots := sl }
theorem KpI.up {fr W : List Addr} {I : Addr} {h₀ h h' : Heap} (x : KpI fr I h₀ h) (k : KpB W h h') (hW : ∀ a ∈ W, h₀.get? a = none) : KpI fr I h₀ h' := by
  have no {b : Addr} {o : Obj} (e : h₀.get? b = some o) : b ∉ W := fun q => by rw [hW b q] at e; cases e
  exact ⟨fun b o h1 h2 e => k b o (no e) (x.kp b o h1 h2 e), fun b o h1 e => let ⟨sl, q⟩ := x.sl b o h1 e; ⟨sl, k b _ (no e) q⟩⟩
theorem KpS.note {fr : List Addr} {L I : Addr} {h₀ h h' : Heap} (x : KpS fr h₀ h) (k : KpI (L :: fr) I h h') (hL : h₀.get? L = none) (hI : h₀.get? I = none) : KpS fr h₀ h' := by
  have nI {b : Addr} {o : Obj} (e : h₀.get? b = some o) : b ≠ I := fun q => by rw [q, hI] at e; cases e
  have nL {b : Addr} {o : Obj} (e : h₀.get? b = some o) : b ≠ L := fun q => by rw [q, hL] at e; cases e
  refine ⟨fun b o hb e => k.kp b o (nI e) (fun q => ?_) (x.kp b o hb e), fun b o e => ?_⟩
  · rcases List.mem_cons.mp q with q | q
    · exact nL e q
    · exact hb q
  · obtain ⟨sl, e1⟩ := x.sl b o e
    obtain ⟨sl', e2⟩ := k.sl b _ (nI e) e1
    exact ⟨sl', e2⟩
section
variable {prog : Program} {w : World} {A : Around} {E : Value → Shared → Prop} {s : Shared} {env : Env} {es : List Env} {Q : Flow → Shared → Prop}
theorem catchEnd {QQ : Value → Shared → Prop} {PX : Value → Shared → Prop} {a I l L : Addr} {i : Nat} {items : Array Value} {h₀ : ExceptHandler} (hh : A.handled = none) (hfr : A.frames = some (env :: es)) (hff : s.heap.FunFrames {} (env :: es)) (hf : env.frame = some L)
    (ho : s.heap.get? a = some (mwObj I)) (hit : s.heap.IsListIter I l i) (hl : s.heap.IsList l items) (hx : items[i]? = none)
    (hPX : ∀ e s₁, wpAny (model prog w) A (noteFrame e env) (fun _ s₂ => wpAny (model prog w) A (setFlight e none) (fun _ s₃ => wpAny (model prog w) A (handleBy e env [h₀]) Q E s₃) E s₂) E s₁ → PX e s₁)
    (k : ∀ e tb h3, KpI (L :: frs es) I s.heap h3 → Noted h3 e tb (.type "StopIteration") → s.heap.objs.size ≤ e → s.heap.objs.size ≤ tb → wpAny (model prog w) A (handleBy (.ref e) env [h₀]) Q E { s with heap := h3 }) :
    wpAny (model prog w) A (call (.ref a) []) QQ PX s := by
  refine mw_end hh ho hit hl hx fun h1 e oe vs k1 he hc hd hv hsz => hPX _ _ ?_
  have hIf : ∀ b o, b ∈ frs (env :: es) → s.heap.get? b = some o → b ≠ I := fun b o hb e q => by
    obtain ⟨oI, hoI, _, hdI⟩ := hit
    obtain ⟨_, o', ho', hnf⟩ := hff.mem hb
    rw [q, hoI] at ho'; cases ho'; exact hnf _ hdI
  have hff1 : h1.FunFrames {} (env :: es) := hff.of_keeps fun b o e hnf => ⟨o, k1 b o (fun q => by
    obtain ⟨oI, hoI, _, hdI⟩ := hit
    rw [q, hoI] at e; cases e; exact hnf _ hdI) e, rfl⟩
  refine noteMany (s := { s with heap := h1 }) hfr hff1 hf he hd hv fun h2 tb pl hpl a1 a2 a3 a4 a5 => ?_
  have hvs : 1 < vs.size := (Array.getElem?_eq_some_iff.mp hv).1
  have hs1 : s.heap.objs.size ≤ h1.objs.size := Nat.le_trans hsz (Nat.le_of_lt (Heap.lt_size he))
  have hete : (e : Nat) ≠ tb := Nat.ne_of_lt (Nat.lt_of_lt_of_le (Heap.lt_size he) a3)
  have hd4 := Obj.data_mapFields hd (·.setIfInBounds 1 (Value.ref tb))
  refine wpAny_setFlight_none a4 hd4 (by simp [hvs]) a5 rfl (by simp) ?_
  have hlen : 3 < ([Value.none, .ref L, .none, rawInt L, .none] ++ (if pl.isEmpty then List.replicate 6 Value.none else pl)).toArray.size := by simp
  have up : ∀ b o, b ≠ tb → h2.get? b = some o → (h2.update tb (Obj.mapFields (·.setIfInBounds 3 .none))).get? b = some o := fun b o hb q => by
    rw [Heap.get?_update_other _ _ (Ne.symm hb)]; exact q
  have ntb {b : Addr} {o : Obj} (q : s.heap.get? b = some o) : b ≠ tb ∧ b ≠ e := ⟨Nat.ne_of_lt (Nat.lt_of_lt_of_le (Heap.lt_size q) (Nat.le_trans hs1 a3)), Nat.ne_of_lt (Nat.lt_of_lt_of_le (Heap.lt_size q) hsz)⟩
  refine k e tb _ ⟨fun b o h1 h2 q => ?_, fun b o h1 q => ?_⟩ ⟨_, _, _, _, up _ _ hete a4, (Obj.cls_mapFields ..).trans hc, hd4, by simp [hvs], Heap.get?_update_self _ a5 (Obj.isFreed_of_fields (Obj.data_mapFields rfl _)), Obj.data_mapFields rfl _, by simp⟩ hsz (Nat.le_trans hs1 a3)
  · refine up _ _ (ntb q).1 (a1 b o (fun hm => h2 ?_) (ntb q).2 (k1 b o h1 q))
    rw [List.filterMap_cons, hf] at hm
    exact hm
  · obtain ⟨sl, q2⟩ := a2 b o (ntb q).2 (k1 b o h1 q)
    exact ⟨sl, up _ _ (ntb q).1 q2⟩
theorem catch2 {X T : String} {e tb : Addr} {t : PySem.Expr} {b₀ : Stmt} {suite : List Stmt} {pos : Pos} (hexc : isSubtype (.type T) (.type "BaseException") = pure true) (hnt : isSubtype (.type ((Manifest.find? T).elim "type" fun x => x.metatype)) (.type "tuple") = pure false)
    (hsub : isSubtype (.type X) (.type T) = pure true) (hN : Noted s.heap e tb (.type X))
    (h : ∀ (PX : Value → Shared → Prop) (PV : Value → Shared → Prop), (∀ tk, (∀ h', KpB [tb] s.heap h' → wpAny (model prog w) (A.mark (some (.ref e))) (execs (b₀ :: suite) env) Q PX { s with heap := h', toks := tk }) → PV (.type T) { s with toks := tk }) →
      wpAny (model prog w) (A.mark (some (.ref e))) (eval t env) PV PX s) :
    wpAny (model prog w) A (handleBy (.ref e) env [.ExceptHandler (some t) none (b₀ :: suite) pos]) Q E s := by
  refine wpAny_handleBy_builtin hexc hnt hsub (h _ _ fun tk hk => ⟨rfl, ?_, ?_⟩)
  · obtain ⟨oe, _, _, _, he, hc, _⟩ := hN
    exact ⟨oe, he, hc⟩
  · obtain ⟨oe, vs, otb, tvs, he, hc, hd, h1, ht, hdt, hsz⟩ := hN
    rw [if_pos rfl]
    refine wpAny_setFlight_none he hd h1 ht hdt hsz (hk _ fun b o hb q => ?_)
    rw [Heap.get?_update_other _ _ (fun z => hb (by rw [z]; exact .head _))]; exact q
end
theorem exc_stop : isSubtype (.type "StopIteration") (.type "BaseException") = pure true := by rw [isSubtype_type]; kernel_rfl
theorem sub_stop : isSubtype (.type "StopIteration") (.type "StopIteration") = pure true := by rw [isSubtype_type]; kernel_rfl
theorem nt_stop : isSubtype (.type ((Manifest.find? "StopIteration").elim "type" fun x => x.metatype)) (.type "tuple") = pure false := by rw [isSubtype_type]; kernel_rfl
end Mine
end
section
open PySem PySem.W PyProof.Rows PySem.Calls PySem.Spec
set_option Elab.async false
set_option maxRecDepth 100000
set_option maxHeartbeats 4000000
namespace Mine
structure Ent where
  s : Int
  c : Nat
  a : Addr
  I : Addr
noncomputable abbrev Ent.p (e : Ent) : Int × Nat := (e.s, e.c)
/-- the stack's own parts -/
structure FD (prog : Program) (w : World) (aS aI aN aT : Addr) (l : List Ent) (seen : List Int) (h : Heap) : Prop where
  stk : ∃ vs n, h.get? aS = some (W.listOf vs n) ∧ IntsAre vs.toList (l.reverse.map (·.s))
  its : ∃ vs n, h.get? aI = some (W.listOf vs n) ∧ vs.toList = l.reverse.map (fun e => Value.ref e.a)
  n2s : ∃ o kvs, h.get? aN = some o ∧ o.IsDictOf (intKind prog w) kvs ∧ kvs.map (·.1) = l.reverse.map (·.s) ∧ ∀ p ∈ kvs, ∃ (i : Nat) (t : Tok), p.2 = .int i t
  set : ∃ o, h.get? aT = some o ∧ IsSet prog w o seen
/-- the entries' iterators -/
structure FE (ℓ : SL) (lo : Nat) (l : List Ent) (h : Heap) : Prop where
  ent : ∀ e ∈ l, h.get? e.a = some (mwObj e.I) ∧ h.IsListIter e.I (ℓ.la e.s) e.c
  lo : ∀ e ∈ l, lo ≤ e.I ∧ e.I < e.a
  pw : l.Pairwise fun e e' => e'.a < e.I
theorem FD.at {prog : Program} {w : World} {aS aI aN aT : Addr} {l : List Ent} {seen : List Int} {h h' : Heap} (F : FD prog w aS aI aN aT l seen h) (k : ∀ a ∈ [aS, aI, aN, aT], ∀ o, h.get? a = some o → h'.get? a = some o) : FD prog w aS aI aN aT l seen h' := by
  obtain ⟨⟨v1, n1, g1, r1⟩, ⟨v2, n2, g2, r2⟩, ⟨o3, k3, g3, r3⟩, ⟨o4, g4, r4⟩⟩ := F
  exact ⟨⟨v1, n1, k _ (.head _) _ g1, r1⟩, ⟨v2, n2, k _ (tl (.head _)) _ g2, r2⟩, ⟨o3, k3, k _ (tl (tl (.head _))) _ g3, r3⟩, ⟨o4, k _ (tl (tl (tl (.head _)))) _ g4, r4⟩⟩
section
variable {ℓ : SL} {lo : Nat} {l r : List Ent} {e : Ent} {h h' : Heap}
theorem FE.nil : FE ℓ lo [] h := ⟨fun _ q => absurd q List.not_mem_nil, fun _ q => absurd q List.not_mem_nil, .nil⟩
theorem FE.at (F : FE ℓ lo l h) (k : ∀ a o, lo ≤ a → h.get? a = some o → h'.get? a = some o) : FE ℓ lo l h' := by
  refine ⟨fun e hm => ?_, F.lo, F.pw⟩
  obtain ⟨l1, l2⟩ := F.lo e hm
  obtain ⟨a1, oI, a2, a3⟩ := F.ent e hm
  exact ⟨k _ _ (Nat.le_of_lt (Nat.lt_of_le_of_lt l1 l2)) a1, oI, k _ _ l1 a2, a3⟩
theorem FE.tail (F : FE ℓ lo (e :: r) h) : FE ℓ lo r h := ⟨fun e he => F.ent e (.tail _ he), fun e he => F.lo e (.tail _ he), (List.pairwise_cons.mp F.pw).2⟩
/-- the top's iterator may turn, the others stay -/
theorem FE.under (F : FE ℓ lo (e :: r) h) (k : ∀ a o, lo ≤ a → a ≠ e.I → h.get? a = some o → h'.get? a = some o) : FE ℓ lo r h' ∧ h'.get? e.a = some (mwObj e.I) := by
  refine ⟨⟨fun e' he' => ?_, F.tail.lo, F.tail.pw⟩, ?_⟩
  · obtain ⟨l1, l2⟩ := F.tail.lo e' he'
    obtain ⟨a1, oI, a2, a3⟩ := F.tail.ent e' he'
    have m5 := (List.pairwise_cons.mp F.pw).1 e' he'
    exact ⟨k _ _ (Nat.le_of_lt (Nat.lt_of_le_of_lt l1 l2)) (Nat.ne_of_lt m5) a1, oI, k _ _ l1 (Nat.ne_of_lt (Nat.lt_trans l2 m5)) a2, a3⟩
  · obtain ⟨l1, l2⟩ := F.lo e (.head _)
    exact k _ _ (Nat.le_of_lt (Nat.lt_of_le_of_lt l1 l2)) (Nat.ne_of_gt l2) (F.ent e (.head _)).1
theorem FE.draw (F : FE ℓ lo (e :: r) h) (k : ∀ a o, lo ≤ a → a ≠ e.I → h.get? a = some o → h'.get? a = some o) (h6 : h'.IsListIter e.I (ℓ.la e.s) (e.c + 1)) : FE ℓ lo (⟨e.s, e.c + 1, e.a, e.I⟩ :: r) h' := by
  obtain ⟨a, b⟩ := F.under k
  exact ⟨List.forall_mem_cons.mpr ⟨⟨b, h6⟩, a.ent⟩, List.forall_mem_cons.mpr ⟨F.lo e (.head _), a.lo⟩, List.pairwise_cons.mpr ⟨(List.pairwise_cons.mp F.pw).1, a.pw⟩⟩
theorem FE.push (F : FE ℓ lo l h) (k : ∀ a o, lo ≤ a → h.get? a = some o → h'.get? a = some o) (h5 : h'.get? e.a = some (mwObj e.I)) (h6 : h'.IsListIter e.I (ℓ.la e.s) e.c) (h7 : lo ≤ e.I) (h8 : e.I < e.a) (h9 : ∀ e' ∈ l, e'.a < e.I) : FE ℓ lo (e :: l) h' :=
  ⟨List.forall_mem_cons.mpr ⟨⟨h5, h6⟩, (F.at k).ent⟩, List.forall_mem_cons.mpr ⟨⟨h7, h8⟩, F.lo⟩, List.pairwise_cons.mpr ⟨h9, F.pw⟩⟩
end
noncomputable abbrev mF (S n2 aS aI aT aN : Addr) : Str → Option Value := fun y => if y = Str.ofString "node2stacki" then some (.ref aN) else if y = Str.ofString "seen" then some (.ref aT) else if y = Str.ofString "itstack" then some (.ref aI) else if y = Str.ofString "stack" then some (.ref aS) else if y = Str.ofString "n2i" then some (.ref n2) else List.lookup y [(Str.ofString "self", Value.ref S)].reverse
theorem isSet_nil {prog : Program} {w : World} {led : Bool} : IsSet prog w { cls := Value.type "set", data := Data.set #[] 0 (SetTable.fresh 0 0 led) } [] :=
  ⟨#[], 0, _, ⟨rfl, rfl, rfl⟩, rfl, fun e he => absurd he List.not_mem_nil, fun k => ⟨fun q => by simp at q, fun ⟨e, he, _⟩ => absurd he List.not_mem_nil⟩, by decide, rfl, rfl⟩
theorem without_last {kvs : List (Int × Value)} {k : Int} {r : List Int} (h : kvs.map (·.1) = r ++ [k]) (hk : k ∉ r) : (without kvs k).map (·.1) = r ∧ ∀ p ∈ without kvs k, p ∈ kvs := by
  refine ⟨?_, fun p hp => (List.mem_filter.mp hp).1⟩
  have e : (without kvs k).map (·.1) = (kvs.map (·.1)).filter fun j => decide (j ≠ k) := by
    unfold without
    rw [List.filter_map]; rfl
  have e2 : r.filter (fun j => decide (j ≠ k)) = r := List.filter_eq_self.mpr fun j hj => by simpa using fun q : j = k => hk (q ▸ hj)
  rw [e, h, List.filter_append, e2]
  simp
theorem valueAt_mem {kvs : List (Int × Value)} {k : Int} : (valueAt kvs k).isSome = true ↔ k ∈ kvs.map (·.1) := by
  unfold valueAt
  rw [Option.isSome_map, List.find?_isSome]
  constructor
  · rintro ⟨p, hp, e⟩
    exact List.mem_map.mpr ⟨p, hp, by simpa using e⟩
  · intro h
    obtain ⟨p, hp, e⟩ := List.mem_map.mp h
    exact ⟨p, hp, by simpa using e⟩
theorem valueAt_some {kvs : List (Int × Value)} {k : Int} {v : Value} (h : valueAt kvs k = some v) : (k, v) ∈ kvs := by
  unfold valueAt at h
  obtain ⟨p, hp, e⟩ := Option.map_eq_some_iff.mp h
  have q := List.find?_some hp
  have m := List.mem_of_find?_eq_some hp
  obtain ⟨a, b⟩ := p
  simp at q e
  subst q; subst e
  exact m
theorem isTrue_tt {M : Model} {A : Around} {E : Value → Shared → Prop} {s : Shared} {env : Env} {k : Tok} {pos : Pos} {P R : Shared → Prop} (h : P s) : wpAny M A (isTrue (.Constant (.bool true) k pos) env (eval (.Constant (.bool true) k pos) env)) (fun b s₂ => if b then P s₂ else R s₂) E s := isTrue_plain (Constant_bool (fun _ _ _ => h))
theorem Off.nats {S : Addr} {ℓ : SL} {ord : List Int} {a : Addr} (o : Off S ℓ ord a) {k : Int} (hk : k ∈ ord) : @Ne Nat a ℓ.n2 ∧ @Ne Nat a (ℓ.ia k) ∧ @Ne Nat a (ℓ.dx k) ∧ @Ne Nat a (ℓ.la k) := ⟨o.n, o.i k hk, o.x k hk, o.l k hk⟩
noncomputable abbrev liObj (l : Addr) : Obj := { cls := .type "list_iterator", data := .fields #[.ref l, .int 0 0] }
theorem iter_K {prog : Program} {w : World} {A : Around} {E : Value → Shared → Prop} {s : Shared} {h₀ : Heap} {L l : Addr} {m : Str → Option Value} {news : List (Addr × Obj)} {items : Array Value} {Q : Value → Shared → Prop} (F : Fr h₀ L s.heap m) (N : News h₀ L s.heap news) (hl : s.heap.IsList l items)
    (h : ∀ (I : Addr) h', Fr h₀ L h' m → News h₀ L h' ((I, liObj l) :: news) → (∀ p ∈ news, p.1 < I) → s.heap.objs.size ≤ I → Q (.ref I) { s with heap := h' }) : wpAny (model prog w) A (call (.builtin "iter") [.ref l]) Q E s := by
  refine call_function_entry (by decide +kernel) (by decide +kernel) kdk_entry_iter (kdk_args_iter _) ?_
  unfold Builtin.«iter»
  refine wpAny_bind (m := someArgs "iter" 1 2 _) (wpAny_of_eq (a := [Value.ref l]) (by first | rfl | kernel_rfl!) ?_)
  show wpAny _ _ (pyIter (.ref l) >>= _) _ _ _
  refine wpAny_bind (wpAny_pyIter_list hl ?_)
  exact wpAny_pure ⟨_, rfl, h _ _ (F.push _) (News.push F N _ rfl) (fun q hq => Heap.lt_size (N q hq).1) (Nat.le_refl _)⟩
theorem ga_K {prog : Program} {w : World} {A : Around} {E : Value → Shared → Prop} {s : Shared} {h₀ : Heap} {L l I : Addr} {m : Str → Option Value} {news : List (Addr × Obj)} {Q : Value → Shared → Prop} (F : Fr h₀ L s.heap m) (N : News h₀ L s.heap news) (hm : (I, liObj l) ∈ news)
    (h : ∀ (a : Addr) h', Fr h₀ L h' m → News h₀ L h' ((a, mwObj I) :: news) → (∀ p ∈ news, p.1 < a) → Q (.ref a) { s with heap := h', toks := s.toks + 1 }) : wpAny (model prog w) A (getAttr (.ref I) (Str.ofString "__next__") true) Q E s :=
  ga_next (N _ hm).1 (h _ _ (F.push _) (News.push F N _ rfl) (fun q hq => Heap.lt_size (N q hq).1))
theorem item_last {prog : Program} {w : World} {A : Around} {E : Value → Shared → Prop} {s : Shared} {value slice : PySem.Expr} {l : Addr} {items : Array Value} {u : Tok} {x : Value} {Q : Value → Shared → Prop} (hl : s.heap.IsList l items) (hx : items.toList = items.toList.dropLast ++ [x]) (h : Q x s)
    (hs : subscripted slice false (.ref l) (.int (-1) u) = operate [.ref l, .int (-1) u] (getItem (.ref l) (.int (-1) u)) := by with_unfolding_all rfl) : wpAny (model prog w) A (subscriptTail value slice (.ref l) (.int (-1) u)) Q E s := by
  have hz : items.size = items.toList.dropLast.length + 1 := by
    have := congrArg List.length hx
    rw [List.length_append] at this
    exact this
  refine tail_any hl.typeIs slot_list_getitem.lookup (wpAny_getItem_list_neg hl (by decide) (by exact Mine.q58 hz) (by decide) ?_ h) hs
  rw [show ((-1 : Int) + items.size).toNat = items.toList.dropLast.length by exact Mine.q59 hz, ← Array.getElem?_toList, hx]
  simp
theorem callWith_mw {M : Model} {A : Around} {E : Value → Shared → Prop} {s : Shared} {pos p2 : Pos} {env : Env} {u I : Addr} {Q : Value → Shared → Prop} (ho : s.heap.get? u = some (mwObj I)) (h : wpAny M A (call (.ref u) []) Q E s) :
    wpAny M A (callWith pos (.ref u) [] (backTo p2 (starEach [] env)) []) Q E s := by
  unfold callWith
  refine wpAny_bind (wpAny_holding (evalArgs_nil3 (wpAny_bind (wpAny_standAt ?_))))
  refine wpAny_bind (m := keeperOf (.ref u)) ?_
  unfold keeperOf
  refine wpAny_bind (wpAny_load ho ?_)
  simp only [show (Value.type "method-wrapper" != Value.type "method") = true by decide, show (Value.type "method-wrapper" == Value.type "builtin_function_or_method" || Value.type "method-wrapper" == Value.type "method-wrapper") = true by decide, if_true]
  refine wpAny_pure ?_
  exact wpAny_bind (wpAny_mono h (fun r s₂ hr => wpAny_bind (wpAny_holding (wpAny_point (wpAny_pure hr)))) fun _ _ x => x)
theorem ns_over {h : Heap} {L : Addr} {x : Str} {a b : Option Value} {f : Str → Option Value} (hn : h.Ns L (fun y => if y = x then a else if y = x then b else f y)) : h.Ns L (fun y => if y = x then a else f y) := by
  have e : (fun y => if y = x then a else if y = x then b else f y) = fun y => if y = x then a else f y := funext fun y => by
    by_cases q : y = x
    · rw [if_pos q, if_pos q]
    · rw [if_neg q, if_neg q, if_neg q]
  rw [← e]; exact hn
theorem ints_snoc {k : Int} : ∀ {a : List Int} {vs : List Value}, IntsAre vs (a ++ [k]) → ∃ us t, vs = us ++ [.int k t] ∧ IntsAre us a
  | [], _, .cons _ t .nil => ⟨[], t, rfl, .nil⟩
  | x :: a, _, .cons _ t h => by
    obtain ⟨us, t', e, h'⟩ := ints_snoc h
    exact ⟨.int x t :: us, t', by rw [e]; rfl, .cons x t h'⟩
theorem kl_lastOf : ∀ (p : List Value) (y : Value), kl_last (p ++ [y]) = some (p, y)
  | [], y => rfl
  | x :: p, y => by
    show (match kl_last (p ++ [y]) with | some (p, y) => some (x :: p, y) | none => some ([], x)) = _
    rw [kl_lastOf p y]
/-- what holds at each place of the look -/
structure FWh (prog : Program) (w : World) (ℓ : SL) (ord : List Int) (su : Int → List Int) (fr : List Addr) (hz : Heap) (S L aS aI aN aT : Addr) (lo : Nat) (St : Heap → Prop) (seen0 : List Int) (xi : Int) (nx : Option Int) (x : Int) (l : List Ent) (seen : List Int) (h : Heap) : Prop where
  ns : ∃ tx, h.Ns L (fun y => if y = Str.ofString "node" then some (.int x tx) else mF S ℓ.n2 aS aI aT aN y)
  kp : KpS fr hz h
  fi : ∃ fin, FI su ord seen fin nx (l.map Ent.p)
  fd : FD prog w aS aI aN aT l seen h
  fe : FE ℓ lo l h
  st : St h
  xo : x ∈ ord
  xi : xi ∈ seen ∨ x = xi
  sub : ∀ p ∈ seen0, p ∈ seen
end Mine
end
section
open PySem PySem.W PyProof.Rows PySem.Calls PySem.Spec
set_option Elab.async false
set_option maxRecDepth 100000
set_option maxHeartbeats 4000000
namespace Mine
theorem fillK7 : (PySem.Challenge.rw_oc0253_01, Mine.hd.heap_1) = (PySem.Challenge.rw_oc0253_01, Mine.hd.heap_1) := by k_fill; rfl
theorem findC {prog : Program} {w : World} {n₀ : Nat} {A : Around} {s : Shared} {Q E : Value → Shared → Prop} (G : Gd w n₀ s.heap) (r : Rm A 6 40) {es : List Env} (Fs : Frs A es n₀ s.heap)
    {S : Addr} {ℓ : SL} {ord : List Int} {np : Int → Int} {su : Int → List Int} {rdy : Value} {po fi : Int} (H : SrtH prog w n₀ s.heap S ℓ ord np su rdy po fi) (hoff : ∀ a ∈ frs es, Off S ℓ ord a)
    (hol : ord.length ≤ 1000) (hsu : ∀ k ∈ ord, ∀ x ∈ su k, x ∈ ord)
    (ret : ∀ h' tk v, KpS (frs es) s.heap h' →
      (v = .none ∧ (∃ fin, Fin su fin ∧ (∀ p, p ∈ ord ↔ p ∈ fin) ∧ fin.Nodup)) ∨ ((∃ l vs n, v = .ref l ∧ h'.get? l = some (W.listOf vs n) ∧ 0 < vs.size ∧ vs.size ≤ 2000) ∧ ∃ (C : List Int) (x : Int), x ∈ C ∧ (∀ p ∈ C, p ∈ ord) ∧ ∀ p ∈ C, ∃ q ∈ C, p ∈ su q) →
      Q v { s with heap := h', toks := tk }) :
    wpAny (model prog w) A (call (.ref 154) [.ref S]) Q E s := by
  w_on
  refine wpAny_call ?_
  obtain ⟨k0, k1, k2, k3, t1, t2, dn, hdS⟩ := H.dict
  refine' startF (K := Mine.hd.heap_1 w.params) [(S, instObj 164 ℓ.dS), (ℓ.dS, dictOf (srtD w k0 k1 k2 k3 (.ref ℓ.n2) rdy (.int po t1) (.int fi t2)) dn)] [(Str.ofString "self", .ref S)] (d := 5) (u := 37) r Fs.fr (fun _ q => q) G H.size ⟨⟨H.inst, H.lo.1⟩, ⟨hdS, H.lo.2.1⟩, trivial⟩ ?k4 ?k5 ?k7 ?k8 ?_ ?c2 ?c3 ?c4 ?c5
  (case k4 => k_is)
  (case k5 => k_is)
  (case k7 => exact BindsTo.of_eq rfl)
  (case k8 => exact locs rfl)
  (case c2 => exact rfl)
  (case c3 => exact rfl)
  (case c4 => exact rfl)
  (case c5 => decide)
  intro A' PQ PE h₁ h₀ L tail mean mg mb tk0 hfr rA hQ1 hQ2 hPE B F N X T
  simp only [List.cons_append, List.nil_append] at N
  have TR := topRead_of T
  w_strict (
  k_steps
  refine wpAny_For ?_
  k_steps
  rename_i aS _ _ _ aI _ _ _ aT _ led _ _ _ _ aN _ oN lo8 _ _ hi8 _ l18 h5 F5 N5
  have kp5 : Kp s.heap h5 := ((B.fin _ _ _ F5 N5 fun q hq => tl (tl (tl (tl (tl (tl hq)))))).less (al2 (.inr ⟨_, H.inst, N5.get (by k_mem)⟩) (.inr ⟨_, hdS, N5.get (by k_mem)⟩))).kp
  have H5 := H.keepK kp5
  obtain ⟨oD, hoD, hD⟩ := H5.tab
  obtain ⟨ep, hDA⟩ := (Heap.dictOf_iff.mpr ⟨oD, hoD, hD⟩).dictAt
  refine wpAny_pyIter_dict H.sm hDA ?_
  have fS : s.heap.get? aS = none := B.fresh _ (N5.fresh (by k_mem)) (show _ ∉ [S, ℓ.dS] from nin2 (by omega) (by omega))
  have fI : s.heap.get? aI = none := B.fresh _ (N5.fresh (by k_mem)) (show _ ∉ [S, ℓ.dS] from nin2 (by omega) (by omega))
  have fT : s.heap.get? aT = none := B.fresh _ (N5.fresh (by k_mem)) (show _ ∉ [S, ℓ.dS] from nin2 (by omega) (by omega))
  have fN : s.heap.get? aN = none := B.fresh _ (N5.fresh (by k_mem)) (show _ ∉ [S, ℓ.dS] from nin2 (by exact Mine.q7 l18.2.2.2.1) (by exact Mine.q7 l18.2.2.2.2.1))
  have gS := N5.get (show (aS, _) ∈ _ by k_mem)
  have gI := N5.get (show (aI, _) ∈ _ by k_mem)
  have gT := N5.get (show (aT, _) ∈ _ by k_mem)
  have gN := N5.get (show (aN, _) ∈ _ by k_mem)
  have nLS : aS ≠ L := (N5 (aS, _) (by k_mem)).2.1
  have nLI : aI ≠ L := (N5 (aI, _) (by k_mem)).2.1
  have nLT : aT ≠ L := (N5 (aT, _) (by k_mem)).2.1
  have nLN : aN ≠ L := (N5 (aN, _) (by k_mem)).2.1
  have lK : s.heap.objs.size ≤ h5.objs.size := Nat.le_trans B.ls (Nat.le_of_lt F5.ns.lt)
  have fK : s.heap.get? h5.objs.size = none := Heap.get?_none_of_le lK
  have oL := Off.none H B.lf
  have nKL := Nat.ne_of_lt F5.ns.lt
  have pS : @Ne Nat aS aI ∧ @Ne Nat aS aN ∧ @Ne Nat aS aT := ⟨by omega, by exact Mine.q60 l18.2.2.1, by omega⟩
  have pI : @Ne Nat aI aN ∧ @Ne Nat aI aT ∧ @Ne Nat aN aT := ⟨by exact Mine.q60 l18.2.1, by omega, by exact Mine.q7 l18.1⟩
  obtain ⟨p1, p2, p3⟩ := pS
  obtain ⟨p4, p5, p6⟩ := pI
  have oS := Off.none H fS
  have oI := Off.none H fI
  have oN' := Off.none H fN
  have oT' := Off.none H fT
  have oK := Off.none H fK
  have bS : n₀ ≤ aS ∧ n₀ ≤ aI ∧ n₀ ≤ aN ∧ n₀ ≤ aT := by have := (show (n₀ : Nat) ≤ S from H.lo.1); refine ⟨?_, ?_, ?_, ?_⟩ <;> omega
  obtain ⟨bS, bI, bN, bT⟩ := bS
  have wL : L ≠ aS ∧ L ≠ aI ∧ L ≠ aN ∧ L ≠ aT ∧ (L : Nat) < h5.objs.size + 1 := ⟨nLS.symm, nLI.symm, nLN.symm, nLT.symm, Nat.lt_succ_of_lt F5.ns.lt⟩
  have wK : h5.objs.size ≠ aS ∧ h5.objs.size ≠ aI ∧ h5.objs.size ≠ aN ∧ h5.objs.size ≠ aT ∧ h5.objs.size < h5.objs.size + 1 := ⟨Nat.ne_of_gt (Heap.lt_size gS), Nat.ne_of_gt (Heap.lt_size gI), Nat.ne_of_gt (Heap.lt_size gN), Nat.ne_of_gt (Heap.lt_size gT), Nat.lt_succ_self _⟩
  have hi5 : ∀ b : Nat, h5.objs.size + 1 ≤ b → b ∉ [L, aS, aI, aN, aT] := fun b hb => by
    have q0 := ltN F5.ns.lt
    have q1 := ltN (Heap.lt_size gS)
    have q2 := ltN (Heap.lt_size gI)
    have q3 := ltN (Heap.lt_size gN)
    have q4 := ltN (Heap.lt_size gT)
    exact nin5 (by exact Mine.q61 hb q0) (by exact Mine.q61 hb q1) (by exact Mine.q61 hb q2) (by exact Mine.q61 hb q3) (by exact Mine.q61 hb q4)
  have kpA : Kp h5 (h5.push { cls := .type "dict_keyiterator", data := .fields #[.ref ℓ.n2, .int 0 0, .int (ℓ.tab ord).length 0, .int ep 0] }) := fun b o e => Heap.get?_push_of_some _ e
  refine forR (fun i m h => (∀ y, y ≠ Str.ofString "node" → m y = mF S ℓ.n2 aS aI aT aN y) ∧ KpS (frs es) s.heap h ∧ ∃ seen fin, FI su ord seen fin none [] ∧ FD prog w aS aI aN aT [] seen h ∧ ∀ p ∈ ord.take i, p ∈ seen) (Walks.dictKeys (knd := intKind prog w) (A := A') rA.hh _ _ (Nat.ne_of_lt hDA.lt_size) (ℓ.tab ord) ep) rfl rfl ?_ ?_ (F5.push _).ns ?_ ?_ ?_
  · exact nin2 nKL oL.n
  · exact ⟨⟨_, Heap.get?_push_size _ rfl, rfl, rfl⟩, hDA.push _⟩
  · exact ⟨fun _ _ => rfl, KpS.of (kp5.trans kpA), [], [], .nil, ⟨⟨#[], 0, kpA _ _ gS, .nil⟩, ⟨#[], 0, kpA _ _ gI, rfl⟩, ⟨oN, [], kpA _ _ gN, hi8, rfl, fun _ q => absurd q List.not_mem_nil⟩, ⟨_, kpA _ _ gT, isSet_nil⟩⟩, fun p hp => absurd hp (by rw [List.take_zero]; exact List.not_mem_nil)⟩
  · rintro PT PE7 i v m h hh tk7 hPT hRet hBrk hi ⟨x, ax, hx, hvx⟩ ⟨jm, jK, seen, fin, jI, jF, jP⟩ kb hn7 st
    obtain ⟨tx, rfl⟩ := Value.isInt_shape hvx
    have hxo : ord[i]? = some x := by
      rw [List.getElem?_map] at hx
      obtain ⟨y, h1, h2⟩ := Option.map_eq_some_iff.mp hx
      rw [h1]; exact congrArg some (congrArg Prod.fst h2)
    have em : (fun y => if y = Str.ofString "node" then some (Value.int x tx) else m y) = fun y => if y = Str.ofString "node" then some (Value.int x tx) else mF S ℓ.n2 aS aI aT aN y := funext fun y => by
      by_cases e : y = Str.ofString "node"
      · rw [if_pos e, if_pos e]
      · rw [if_neg e, if_neg e, jm y e]
    rw [em] at hn7
    have kst := (Walks.dictKeys (knd := intKind prog w) (A := A') rA.hh h5.objs.size ℓ.n2 (Nat.ne_of_lt hDA.lt_size) (ℓ.tab ord) ep).frame (i + 1)
    have K7 := jK.up kb (al2 B.lf fK)
    have F7 := jF.at fun a ha o e => kb a o (nin2 (al4 (P := fun a => a ≠ L) nLS nLI nLN nLT a ha) (al4 (P := fun a => a ≠ h5.objs.size) wK.1.symm wK.2.1.symm wK.2.2.1.symm wK.2.2.2.1.symm a ha)) e
    have G7 := G.keepS Fs K7
    obtain ⟨oT, gT7, hT7⟩ := F7.set
    have bL := B.ln
    obtain ⟨h₀8, tail8, F8, N8, off8, lt8, X8, ⟨mean8, mg8, mb8, T8⟩, hid8, bk8⟩ := rebase [(aT, oT)] G7 hn7 bL (List.forall_mem_singleton.mpr ⟨gT7, nLT, bT⟩)
    simp only [List.cons_append, List.nil_append, mF] at N8 F8
    clear F5 N5 X T TR
    have TR8 := topRead_of T8
    have hsub : ∀ sn' : List Int, (∀ p ∈ seen, p ∈ sn') → x ∈ sn' → ∀ p ∈ ord.take (i + 1), p ∈ sn' := fun sn' h1 h2 p hp => by
      rw [List.take_add_one, hxo] at hp
      exact (List.mem_append.mp hp).elim (fun q => h1 p (jP p q)) fun q => List.mem_singleton.mp q ▸ h2
    k_steps
    refine ks_in (by assumption) (by k_mem) hT7 ?_
    by_cases hxs : x ∈ seen
    · rw [decide_eq_true hxs]
      k_steps
      refine hPT _ _ ⟨.inr rfl, _, _, _, rfl, hn7, st, fun y hy => if_neg hy, K7, seen, fin, jI, F7, hsub seen (fun _ q => q) hxs⟩
    · rw [decide_eq_false hxs]
      k_steps
      refine whileQ (fun k s' => ∃ x' l seen' h' tk', s' = { s with heap := h', toks := tk' } ∧ FWh prog w ℓ ord su (frs es) s.heap S L aS aI aN aT (h5.objs.size + 1) (fun h' => h'.IsKeyIter h5.objs.size ℓ.n2 (i + 1) (ℓ.tab ord).length ep ∧ Heap.DictAt (intKind prog w) h' ℓ.n2 (ℓ.tab ord) ep) seen x (some x') x' l seen' h' ∧ k = lft su ord seen' + und su (l.map Ent.p)) ?_ _ ⟨x, [], seen, _, _, rfl, ⟨⟨tx, hn7⟩, K7, ⟨fin, jI.start x⟩, F7, .nil, st, List.mem_of_getElem? hxo, .inr rfl, fun _ q => q⟩, rfl⟩
      clear N8 F8 hn7 F7 K7 kb st gT7 hT7 G7 T8 TR8 X8 bk8 hid8 lt8 off8 em
      rintro PTw POw PEw k _ hGo hBr hRt hOr ⟨x', l, seen', h8, tk8, rfl, ⟨⟨tx', hn8⟩, K8, ⟨fin', I8⟩, D8, E8, st8, xo8, xi8, sub8⟩, rfl⟩
      refine isTrue_tt ?_
      refine cutS (fun s' => ∃ l' seen'' h' tk', s' = { s with heap := h', toks := tk' } ∧ FWh prog w ℓ ord su (frs es) s.heap S L aS aI aN aT (h5.objs.size + 1) (fun h' => h'.IsKeyIter h5.objs.size ℓ.n2 (i + 1) (ℓ.tab ord).length ep ∧ Heap.DictAt (intKind prog w) h' ℓ.n2 (ℓ.tab ord) ep) seen x none x' l' seen'' h' ∧ x' ∈ seen'' ∧ lft su ord seen'' + und su (l'.map Ent.p) ≤ lft su ord seen' + und su (l.map Ent.p)) ?_ ?_
      · intro PT1 hN1 hR1 hC1 hB1
        have G8 := G.keepS Fs K8
        have H8 := H.keep K8.kp hoff
        obtain ⟨⟨vS, nS, gS8, iS8⟩, ⟨vI, nI, gI8, iI8⟩, ⟨oN8, kvs, gN8, hN8, kN8, vN8⟩, ⟨oT8, gT8, hT8⟩⟩ := D8
        obtain ⟨lo1, lo2, lo3, lo4⟩ := H8.lo
        obtain ⟨oD8, hoD8, hD8⟩ := H8.tab
        obtain ⟨tx9, u9, gi8, gx8⟩ := H8.info x' xo8
        obtain ⟨us, un, gl8, hus⟩ := H8.lst x' xo8
        obtain ⟨h₀9, tail9, F9, N9, off9, lt9, X9, ⟨mean9, mg9, mb9, T9⟩, hid9, bk9⟩ := rebase [(aS, W.listOf vS nS), (aI, W.listOf vI nI), (aN, oN8), (aT, oT8), (ℓ.n2, oD8), (ℓ.ia x', niObj (ℓ.dx x') x' tx9 (np x') u9 (ℓ.la x')), (ℓ.dx x', dictOf [] 0), (ℓ.la x', W.listOf us un)] G8 hn8 bL
          (cons9 ⟨gS8, nLS, bS⟩ (cons9 ⟨gI8, nLI, bI⟩ (cons9 ⟨gN8, nLN, bN⟩ (cons9 ⟨gT8, nLT, bT⟩ (al4 ⟨hoD8, oL.n.symm, lo3⟩ ⟨gi8, (oL.i x' xo8).symm, (lo4 x' xo8).1⟩ ⟨gx8, (oL.x x' xo8).symm, (lo4 x' xo8).2.2⟩ ⟨gl8, (oL.l x' xo8).symm, (lo4 x' xo8).2.1⟩)))))
        simp only [List.cons_append, List.nil_append, mF] at N9 F9
        have TR9 := topRead_of T9
        have fS9 := oS.nats xo8
        have fI9 := oI.nats xo8
        have fN9 := oN'.nats xo8
        have fT9 := oT'.nats xo8
        have tS9 : ∀ q ∈ tail9, q.1 ≠ aS := fun q hq e => off9 q hq (e ▸ .head _)
        have tI9 : ∀ q ∈ tail9, q.1 ≠ aI := fun q hq e => off9 q hq (e ▸ tl (.head _))
        have tN9 : ∀ q ∈ tail9, q.1 ≠ aN := fun q hq e => off9 q hq (e ▸ tl (tl (.head _)))
        have tT9 : ∀ q ∈ tail9, q.1 ≠ aT := fun q hq e => off9 q hq (e ▸ tl (tl (tl (.head _))))
        k_steps
        refine ks_in (by assumption) (by k_mem) hT8 ?_
        by_cases hxs' : x' ∈ seen'
        · rw [decide_eq_true hxs']
          k_steps
          refine kd_in (by assumption) (by k_mem) hN8 lo8 ?_
          by_cases hxk : (valueAt kvs x').isSome = true
          · rw [hxk]
            k_steps
            obtain ⟨vx, hvx⟩ := Option.isSome_iff_exists.mp hxk
            obtain ⟨ix, itx, rfl⟩ := vN8 _ (valueAt_some hvx)
            refine kd_tail (by assumption) (by k_mem) hN8 hvx ?_
            have hlS := iS8.length
            rw [List.length_map, List.length_reverse, Array.length_toList] at hlS
            k_steps
            refine' kmk_slice (hi := none) F9 N9 ?l (.int ix itx) .none ?_ ?s ?t ?z
            (case l => exact IsL.isList (N9.get (by k_mem)))
            (case s => with_unfolding_all rfl)
            (case t => (intro _; with_unfolding_all rfl))
            (case z => (rw [sizeLine_eq]; have := I8.len'.1; rw [List.length_map] at this; exact Mine.q62 hol hlS this))
            intro D h10 F10 N10 l10
            k_steps
            (rename Fr _ _ _ _ => F11); (rename News _ _ _ _ => N11)
            have hsz : (slicePick vS (some ↑ix) none none).size ≤ 1000 := by
              have := I8.len'.1
              rw [List.length_map] at this
              exact Nat.le_trans (slicePick_size_le ..) (by exact Mine.q63 hol hlS this)
            refine' add_arrays F11 N11 (IsL.isList (N11.get (by k_mem))) (IsL.isList (N11.get (by k_mem))) ?_ ?z7
            · intro h12 F12 N12
              have c12 := (bk9 _ _ _ F12 N12 fun q hq => tl (tl (tl (tl (tl (tl (tl (tl (tl (tl (tl hq))))))))))).less (W' := [L]) (cons9 (.inl (.head _)) (cons9 (.inr ⟨_, gS8, N12.get (by k_mem)⟩) (cons9 (.inr ⟨_, gI8, N12.get (by k_mem)⟩) (cons9 (.inr ⟨_, gN8, N12.get (by k_mem)⟩) (cons9 (.inr ⟨_, gT8, N12.get (by k_mem)⟩) (al4 (.inr ⟨_, hoD8, N12.get (by k_mem)⟩) (.inr ⟨_, gi8, N12.get (by k_mem)⟩) (.inr ⟨_, gx8, N12.get (by k_mem)⟩) (.inr ⟨_, gl8, N12.get (by k_mem)⟩)))))))
              refine hR1 _ _ (hRt _ _ (hRet _ _ (hQ1 _ _ (ret _ _ _ (K8.up c12 (List.forall_mem_singleton.mpr B.lf)) (.inr ⟨⟨_, _, _, rfl, N12.get (.head _), ?_, ?_⟩, ?_⟩)))))
              · simp
              · simp
                exact Mine.q64 hsz
              · obtain ⟨C, c1, c2, c3⟩ := I8.ring (x := x') (by rw [List.map_map]; have := valueAt_mem.mp hxk; rw [kN8, List.map_reverse] at this; exact List.mem_reverse.mp this)
                exact ⟨C, x', c1, c2, c3⟩
            · rw [sizeLine_eq]
              show _ + 1 ≤ _
              exact Mine.q65 hsz
          · rw [Bool.eq_false_iff.mpr hxk]
            k_steps
            refine hN1 _ ⟨l, seen', h8, _, rfl, ⟨⟨tx', hn8⟩, K8, ⟨fin', I8.settle hxs' fun q => hxk (valueAt_mem.mpr (by rw [kN8, List.map_reverse]; exact List.mem_reverse.mpr (by rw [List.map_map] at q; exact q)))⟩, ⟨⟨vS, nS, gS8, iS8⟩, ⟨vI, nI, gI8, iI8⟩, ⟨oN8, kvs, gN8, hN8, kN8, vN8⟩, ⟨oT8, gT8, hT8⟩⟩, E8, st8, xo8, xi8, sub8⟩, hxs', Nat.le_refl _⟩
        · rw [decide_eq_false hxs']
          k_steps
          refine ks_method (by assumption) (by k_mem) hT8 ?_
          k_steps
          refine' ks_add ?F ?N ?U hT8 hxs' ?z ?_
          (case F => assumption)
          (case N => assumption)
          (case U => k_updF)
          (case z => (have := I8.len'.2; exact Mine.q66 hol this))
          intro h10 oT10 F10 N10 hT10
          (try dsimp only at N10)
          clear F9 N9
          k_steps
          refine kd_tail (by assumption) (by k_mem) hD8 (by rw [valueAt_map, if_pos xo8]) ?_
          k_steps
          refine iter_K (by assumption) (by assumption) (IsL.isList (News.get (by assumption) (by k_mem))) ?_
          intro I h11 F11 N11 l11 z11
          dsimp only at z11
          have c10 := (bk9 _ _ _ F10 N10 fun q hq => tl (tl (tl (tl (tl (tl (tl (tl hq)))))))).less (W' := [L, aS, aI, aN, aT]) (cons9 (.inl (.head _)) (cons9 (.inl (tl (.head _))) (cons9 (.inl (tl (tl (.head _)))) (cons9 (.inl (tl (tl (tl (.head _))))) (cons9 (.inl (tl (tl (tl (tl (.head _)))))) (al4 (.inr ⟨_, hoD8, N10.get (by k_mem)⟩) (.inr ⟨_, gi8, N10.get (by k_mem)⟩) (.inr ⟨_, gx8, N10.get (by k_mem)⟩) (.inr ⟨_, gl8, N10.get (by k_mem)⟩)))))))
          have z10 : ∀ e' ∈ l, e'.a < I := fun e' he' => Nat.lt_of_lt_of_le (Heap.lt_size (c10 _ _ (hi5 _ (Nat.le_of_lt (Nat.lt_of_le_of_lt (E8.lo e' he').1 (E8.lo e' he').2))) (E8.ent e' he').1)) z11
          have z10' : h5.objs.size + 1 ≤ I := by
            obtain ⟨_, gK, _⟩ := st8.1
            exact Nat.lt_of_lt_of_le (Heap.lt_size (c10 _ _ (nin5 nKL.symm wK.1 wK.2.1 wK.2.2.1 wK.2.2.2.1) gK)) z11
          clear F10 N10
          refine ga_K F11 N11 (.head _) ?_
          intro a h12 F12 N12 l12
          have l11' := allLt_of l11
          have l12' := allLt_of l12
          (try simp only [AllLt] at l11' l12')
          clear F11 N11
          k_steps
          refine' append_K F12 N12 (its := vI) (n := nI) ?U1 ?_ ?z1
          (case U1 => k_upd)
          (case z1 => (rw [sizeLine_eq]; have := congrArg List.length iI8; rw [List.length_map, List.length_reverse, Array.length_toList] at this; have := I8.len'.1; rw [List.length_map] at this; exact Mine.q62 hol ‹_› this))
          intro h13 F13 N13
          clear F12 N12
          have hzS : vS.size ≤ 1000 := by
            have q := iS8.length
            rw [List.length_map, List.length_reverse, Array.length_toList] at q
            have := I8.len'.1
            rw [List.length_map] at this; exact Mine.q63 hol q this
          have hkl : kvs.length = l.length := by
            have q := congrArg List.length kN8
            simpa using q
          have hll := I8.len'.1
          rw [List.length_map] at hll
          have hlS : vS.size = l.length := by
            have q := iS8.length
            rw [List.length_map, List.length_reverse, Array.length_toList] at q
            exact q
          have hxk' : x' ∉ kvs.map (·.1) := fun q => hxs' ((I8.se x').mpr (.inr (by rw [kN8, List.map_reverse] at q; rw [List.map_map]; exact List.mem_reverse.mp q)))
          dsimp only
          k_steps
          refine' kd_set ?F2 ?N2 ?U2 hN8 ?z2 ?_
          (case F2 => k_asm)
          (case N2 => k_asm)
          (case U2 => k_updF)
          (case z2 => (rw [sizeLine_eq]; exact Mine.q67 hzS hkl hlS))
          intro h14 oN14 F14 N14 hN14
          (try dsimp only at N14)
          clear F13 N13
          dsimp only
          k_steps
          refine' append_K F14 N14 (its := vS) (n := nS) ?U3 ?_ ?z3
          (case U3 => k_upd)
          (case z3 => (rw [sizeLine_eq]; exact Mine.q34 hzS))
          intro h15 F15 N15
          clear F14 N14
          dsimp only
          k_steps
          have c15 := (bk9 _ _ _ F15 N15 fun q hq => tl (tl (tl (tl (tl (tl (tl (tl (tl (tl hq)))))))))).less (W' := [L, aS, aI, aN, aT]) (cons9 (.inl (.head _)) (cons9 (.inl (tl (.head _))) (cons9 (.inl (tl (tl (.head _)))) (cons9 (.inl (tl (tl (tl (.head _))))) (cons9 (.inl (tl (tl (tl (tl (.head _)))))) (al4 (.inr ⟨_, hoD8, N15.get (by k_mem)⟩) (.inr ⟨_, gi8, N15.get (by k_mem)⟩) (.inr ⟨_, gx8, N15.get (by k_mem)⟩) (.inr ⟨_, gl8, N15.get (by k_mem)⟩)))))))
          refine hN1 _ ⟨⟨x', 0, a, I⟩ :: l, seen' ++ [x'], h15, _, rfl, ⟨⟨tx', F15.ns⟩, K8.up c15 (cons9 B.lf (al4 fS fI fN fT)), ⟨fin', I8.push hxs' xo8⟩, ⟨⟨_, _, N15.get (tl (tl (.head _))), ?_⟩, ⟨_, _, N15.get (tl (tl (tl (.head _)))), ?_⟩, ⟨oN14, _, N15.get (tl (tl (tl (tl (.head _))))), hN14, ?_, ?_⟩, ⟨oT10, N15.get (tl (tl (tl (tl (tl (.head _)))))), hT10⟩⟩, ?_, kst _ _ st8 (al2 (fun o e => c15 _ o (nin5 nKL.symm wK.1 wK.2.1 wK.2.2.1 wK.2.2.2.1) e) fun o e => c15 _ o (nin5 oL.n.symm oS.n.symm oI.n.symm oN'.n.symm oT'.n.symm) e), xo8, xi8.imp (List.mem_append_left _) id, fun p hp => List.mem_append_left _ (sub8 p hp)⟩, List.mem_append_right _ (.head _), Nat.le_of_lt (und_push hxs' xo8)⟩
          · rw [Array.toList_push, List.reverse_cons, List.map_append]
            exact iS8.append (.cons x' tx' .nil)
          · rw [Array.toList_push, List.reverse_cons, List.map_append, iI8]
            rfl
          · rw [stored_new, List.map_append, kN8, List.reverse_cons, List.map_append]
            · rfl
            · exact hxk'
          · rw [stored_new hxk']
            intro p hp
            rcases List.mem_append.mp hp with q | q
            · exact vN8 p q
            · rw [List.mem_singleton.mp q]
              exact ⟨_, _, rfl⟩
          · exact E8.push (fun b o hb e => c15 b o (hi5 b hb) e) (N15.get (.head _)) ⟨_, N15.get (tl (.head _)), rfl, rfl⟩ z10' (l12 _ (.head _)) z10
      · rintro _ ⟨l', seen'', h9, tk9, rfl, F9, hxm, hle⟩
        refine lastS fun PT2 hP2 => ?_
        refine whileQ (fun k s' => ∃ l'' h' tk', s' = { s with heap := h', toks := tk' } ∧ FWh prog w ℓ ord su (frs es) s.heap S L aS aI aN aT (h5.objs.size + 1) (fun h' => h'.IsKeyIter h5.objs.size ℓ.n2 (i + 1) (ℓ.tab ord).length ep ∧ Heap.DictAt (intKind prog w) h' ℓ.n2 (ℓ.tab ord) ep) seen x none x' l'' seen'' h' ∧ lft su ord seen'' + und su (l''.map Ent.p) ≤ lft su ord seen' + und su (l.map Ent.p) ∧ k = l''.length) ?_ _ ⟨l', h9, tk9, rfl, F9, hle, rfl⟩
        clear F9
        rintro PTi POi PEi k _ hGo2 hBr2 hRt2 hOr2 ⟨l9, h10, tk10, rfl, ⟨⟨tx9, hn9⟩, K9, ⟨fin9, I9⟩, D9, E9, st9, xo9, xi9, sub9⟩, hle9, rfl⟩
        have G9 := G.keepS Fs K9
        have D9' := D9
        obtain ⟨⟨vS, nS, gS9, iS9⟩, ⟨vI, nI, gI9, iI9⟩, ⟨oN9, kvs, gN9, hN9, kN9, vN9⟩, ⟨oT9, gT9, hT9⟩⟩ := D9
        obtain ⟨h₀9, tail9, F9, N9, off9, lt9, X9, ⟨mean9, mg9, mb9, T9⟩, hid9, bk9⟩ := rebase [(aS, W.listOf vS nS), (aI, W.listOf vI nI), (aN, oN9)] G9 hn9 bL (al3 ⟨gS9, nLS, bS⟩ ⟨gI9, nLI, bI⟩ ⟨gN9, nLN, bN⟩)
        simp only [List.cons_append, List.nil_append, mF] at N9 F9
        have TR9 := topRead_of T9
        have tS9 : ∀ q ∈ tail9, q.1 ≠ aS := fun q hq e => off9 q hq (e ▸ .head _)
        have tI9 : ∀ q ∈ tail9, q.1 ≠ aI := fun q hq e => off9 q hq (e ▸ tl (.head _))
        have tN9 : ∀ q ∈ tail9, q.1 ≠ aN := fun q hq e => off9 q hq (e ▸ tl (tl (.head _)))
        cases l9 with
        | nil =>
          obtain rfl : vS = #[] := by
            cases iS9' : vS.toList with
            | nil => exact Array.toList_eq_nil_iff.mp iS9'
            | cons a b => have := iS9.length; rw [iS9'] at this; cases this
          k_steps
          refine wpAny_truthy_list (IsL.isList gS9) (by decide) ?_
          k_steps
          refine hOr2 _ _ (hP2 _ _ (hBr _ (wpAny_execs_nil ?_)))
          exact hPT _ _ ⟨.inl rfl, h10, _, _, rfl, hn9, st9, fun y hy => if_neg hy, K9, seen'', fin9, I9, D9', hsub seen'' sub9 (xi9.elim id fun q => q ▸ hxm)⟩
        | cons e r =>
          have hlS : vS.size = r.length + 1 := by
            have q := iS9.length
            rw [List.length_map, List.length_reverse, Array.length_toList] at q
            exact q
          have hlI : vI.size = r.length + 1 := by
            have q := congrArg List.length iI9
            rw [List.length_map, List.length_reverse, Array.length_toList] at q
            exact q
          have hll := I9.len
          rw [List.length_map, List.length_cons] at hll
          k_steps
          refine wpAny_truthy_list (IsL.isList gS9) (by omega) ?_
          rw [show (!vS.isEmpty) = true by rw [Array.isEmpty_eq_false_iff.mpr]; rfl; intro q; rw [q] at hlS; cases hlS]
          k_steps
          refine tryQ fun PT3 PX3 hP3 hX3 => ?_
          have vIe : vI.toList = r.reverse.map (fun e => Value.ref e.a) ++ [.ref e.a] := by rw [iI9, List.reverse_cons, List.map_append]; rfl
          have vIl : vI.toList = vI.toList.dropLast ++ [.ref e.a] := by rw [vIe, List.dropLast_concat]
          k_steps
          refine item_last (IsL.isList gI9) vIl ?_
          k_steps
          have H9 := H.keep K9.kp hoff
          have hso : e.s ∈ ord := I9.so _ ((I9.se _).mpr (.inr (.head _)))
          obtain ⟨us, un, gl9, hus⟩ := H9.lst e.s hso
          obtain ⟨ga9, gi9⟩ := E9.ent e (.head _)
          obtain ⟨z1, z2⟩ := E9.lo e (.head _)
          have z1' : h5.objs.size + 1 ≤ (e.I : Nat) := z1
          have eiL := hi5 _ z1
          have eiF : s.heap.get? e.I = none := Heap.get?_none_of_le (Nat.le_trans lK (Nat.le_of_succ_le z1'))
          have xi9' : x ∈ seen'' := xi9.elim id fun q => q ▸ hxm
          have hIK : e.I ≠ h5.objs.size := Nat.ne_of_gt z1
          have hIn : e.I ≠ ℓ.n2 := (Off.none H eiF).n
          clear N9 F9 TR9 T9 X9 bk9 tS9 tI9 tN9 off9 lt9 hid9
          refine callWith_mw ga9 ?_
          cases hx : (su e.s)[e.c]? with
          | some x2 =>
            obtain ⟨t2', ht2'⟩ := hus.get _ _ hx
            rw [Array.getElem?_toList] at ht2'
            refine mw_item ga9 gi9 (IsL.isList gl9) ht2' fun h11 it11 sb11 => ?_
            have k11 : ∀ b o, b ≠ e.I → h10.get? b = some o → h11.get? b = some o := fun b o hb q => sb11.extBut b o hb q
            have hn11 := hn9.at' fun o q => k11 _ o (fun z => eiL (z ▸ .head _)) q
            have K11 : KpS (frs es) s.heap h11 := K9.up (W := [e.I]) (fun b o hb q => k11 b o (fun z => hb (z ▸ .head _)) q) (List.forall_mem_singleton.mpr eiF)
            obtain ⟨h₀9, tail9, F9, N9, off9, lt9, X9, ⟨mean9, mg9, mb9, T9⟩, hid9, bk9⟩ := rebase [] (G.keepS Fs K11) hn11 bL (fun _ q => absurd q List.not_mem_nil)
            simp only [List.nil_append, mF] at N9 F9
            have TR9 := topRead_of T9
            k_steps
            (rename Fr _ _ _ _ => F10); (rename News _ _ _ _ => N10)
            have c12 := bk9 _ _ _ F10 N10 fun q hq => hq
            have k12 : ∀ b o, b ≠ L → b ≠ e.I → h10.get? b = some o → _ := fun b o h1 h2 q => c12 b o (nin1 h1) (k11 b o h2 q)
            refine hP3 _ _ (hBr2 _ (hP2 _ _ (hGo _ _ (Nat.lt_of_lt_of_le (Nat.add_lt_add_left (und_draw (r := r.map Ent.p) hx) (lft su ord seen'')) hle9) ⟨x2, ⟨e.s, e.c + 1, e.a, e.I⟩ :: r, seen'', _, _, rfl, ⟨⟨t2', ns_over F10.ns⟩, K11.up c12 (List.forall_mem_singleton.mpr B.lf), ⟨fin9, I9.draw hx⟩, ?_, ?_, ?_, hsu e.s hso x2 (List.mem_of_getElem? hx), .inl xi9', sub9⟩, rfl⟩).1))
            · obtain ⟨⟨v1, n1, g1, r1⟩, ⟨v2, n2, g2, r2⟩, ⟨o3, k3, g3, r3, r4, r5⟩, s4⟩ := D9'.at fun b hb o q => k12 b o (al4 (P := fun b => b ≠ L) nLS nLI nLN nLT b hb) (fun z => eiL (z ▸ .tail _ hb)) q
              rw [List.reverse_cons] at r1 r2 r4
              exact ⟨⟨v1, n1, g1, by rw [List.reverse_cons, List.map_append] at *; exact r1⟩, ⟨v2, n2, g2, by rw [List.reverse_cons, List.map_append] at *; exact r2⟩, ⟨o3, k3, g3, r3, by rw [List.reverse_cons, List.map_append] at *; exact r4, r5⟩, s4⟩
            · refine E9.draw (fun b o hb hne q => k12 b o (fun z => hi5 b hb (z ▸ .head _)) hne q) (it11.at fun o q => c12 _ o (nin1 fun z => eiL (z ▸ .head _)) q)
            · exact kst _ _ st9 (al2 (fun o q => k12 _ o nKL.symm hIK.symm q) fun o q => k12 _ o oL.n.symm hIn.symm q)
          | none =>
            have nfr : ∀ b, s.heap.get? b = none → b ∉ frs es := fun b hb hm => by
              obtain ⟨_, o, ho, _⟩ := Fs.ff.mem hm
              rw [hb] at ho; cases ho
            refine catchEnd (h₀ := _) rA.hh hfr (Fs.push K9 hfr rfl rfl hn9 bL).ff rfl ga9 gi9 (IsL.isList gl9) (by rw [← Array.getElem?_toList]; exact List.getElem?_eq_none_iff.mpr (by rw [hus.length]; exact List.getElem?_eq_none_iff.mp hx)) hX3 fun ex tb h3 kI hNo hz1 hz2 => ?_
            dsimp only
            have K3 := K9.note kI B.lf eiF
            have hn3 := ns_slots hn9 fun o q => kI.sl L o (fun z => eiL (z ▸ .head _)) q
            have zL : (L : Nat) < h10.objs.size := hn9.lt
            have zI : (e.I : Nat) < h10.objs.size := Nat.lt_trans z2 (Heap.lt_size ga9)
            refine catch2 exc_stop nt_stop sub_stop hNo fun PX4 PV4 hPV4 => ?_
            obtain ⟨h₀9, tail9, F9, N9, off9, lt9, X9, ⟨mean9, mg9, mb9, T9⟩, hid9, bk9⟩ := rebase [] (G.keepS Fs K3) hn3 bL (fun _ q => absurd q List.not_mem_nil)
            simp only [List.nil_append, mF] at N9 F9
            have TR9 := topRead_of T9
            k_steps
            refine hPV4 _ fun h4 kb4 => ?_
            (try clear TR9); (try clear bk9); (try clear N9); (try clear F9); (try clear T9); (try clear X9)
            have ntb : ∀ b : Nat, b < h10.objs.size → b ≠ tb := fun b hb => Nat.ne_of_lt (Nat.lt_of_lt_of_le hb hz2)
            have k4 : ∀ b o, b ≠ e.I → b ≠ L → b ∉ frs es → h10.get? b = some o → h4.get? b = some o := fun b o a1 a2 a3 q => kb4 b o (nin1 (ntb b (Heap.lt_size q))) (kI.kp b o a1 (fun z => (List.mem_cons.mp z).elim a2 a3) q)
            have ftb : s.heap.get? tb = none := Heap.get?_none_of_le (Nat.le_trans (Nat.le_trans lK (Nat.le_of_succ_le z1')) (Nat.le_trans (Nat.le_of_lt zI) hz2))
            have K4 := K3.up kb4 (List.forall_mem_singleton.mpr ftb)
            have hn4 := hn3.at' fun o q => kb4 L o (nin1 (ntb L zL)) q
            have kD : ∀ b ∈ [aS, aI, aN, aT], ∀ o, h10.get? b = some o → h4.get? b = some o := fun b hb o q => k4 b o (fun z => eiL (z ▸ .tail _ hb)) (al4 (P := fun b => b ≠ L) nLS nLI nLN nLT b hb) (al4 (P := fun b => b ∉ frs es) (nfr _ fS) (nfr _ fI) (nfr _ fN) (nfr _ fT) b hb) q
            obtain ⟨E4, _⟩ := E9.under (h' := h4) fun b o hb hne q => k4 b o hne (fun z => hi5 b hb (z ▸ .head _)) (nfr b (Heap.get?_none_of_le (Nat.le_trans lK (Nat.le_of_succ_le hb)))) q
            have st4 := kst _ _ st9 (al2 (fun o q => k4 _ o hIK.symm nKL.symm (nfr _ fK) q) fun o q => k4 _ o hIn.symm oL.n.symm (fun z => (hoff _ z).n rfl) q)
            obtain ⟨h₀9, tail9, F9, N9, off9, lt9, X9, ⟨mean9, mg9, mb9, T9⟩, hid9, bk9⟩ := rebase [(aS, W.listOf vS nS), (aI, W.listOf vI nI), (aN, oN9)] (G.keepS Fs K4) hn4 bL (al3 ⟨kD _ (.head _) _ gS9, nLS, bS⟩ ⟨kD _ (tl (.head _)) _ gI9, nLI, bI⟩ ⟨kD _ (tl (tl (.head _))) _ gN9, nLN, bN⟩)
            simp only [List.cons_append, List.nil_append, mF] at N9 F9
            have TR9 := topRead_of T9
            have tS9 : ∀ q ∈ tail9, q.1 ≠ aS := fun q hq e => off9 q hq (e ▸ .head _)
            have tI9 : ∀ q ∈ tail9, q.1 ≠ aI := fun q hq e => off9 q hq (e ▸ tl (.head _))
            have tN9 : ∀ q ∈ tail9, q.1 ≠ aN := fun q hq e => off9 q hq (e ▸ tl (tl (.head _)))
            rw [List.reverse_cons, List.map_append] at iS9 kN9
            obtain ⟨uS, tS, eS, iS⟩ := ints_snoc iS9
            have vIe' : vI.toList = r.reverse.map (fun e => Value.ref e.a) ++ [.ref e.a] := vIe
            have hkr : e.s ∉ r.reverse.map (·.s) := fun q => (List.nodup_cons.mp I9.ns).1 (by rw [List.map_reverse] at q; rw [List.map_map]; exact List.mem_reverse.mp q)
            obtain ⟨kr1, kr2⟩ := without_last kN9 hkr
            have hkz : kvs.length = r.length + 1 := by
              have q := congrArg List.length kN9
              simpa using q
            k_steps
            refine' kl_pop F9 N9 (its := vS) (n := nS) (e := eS ▸ kl_lastOf uS _) ?V1 ?y1 ?_
            (case V1 => k_upd)
            (case y1 => (rw [sizeLine_eq, Array.length_toList]; exact Mine.q68 hol hlS hll))
            intro h5' F10 N10
            clear F9 N9
            dsimp only
            k_steps
            refine' kd_del ?V2 ?V3 ?V4 hN9 ?y2 ?y3 ?_
            (case V2 => k_asm)
            (case V3 => k_asm)
            (case V4 => k_updF)
            (case y2 => (rw [sizeLine_eq]; exact Mine.q69 hol hll hkz))
            (case y3 => exact valueAt_mem.mpr (by rw [kN9]; exact List.mem_append_right _ (.head _)))
            intro h6 oN6 F11 N11 hN6
            (try dsimp only at N11)
            clear F10 N10
            dsimp only
            k_steps
            refine' kl_pop F11 N11 (its := vI) (n := nI) (e := vIe' ▸ kl_lastOf _ _) ?V5 ?y4 ?_
            (case V5 => k_upd)
            (case y4 => (rw [sizeLine_eq, Array.length_toList]; exact Mine.q68 hol hlI hll))
            intro h7 F12 N12
            clear F11 N11
            dsimp only
            k_steps
            have c7 := bk9 _ _ _ F12 N12 fun q hq => tl (tl (tl hq))
            refine (hGo2 r.length _ (Nat.lt_succ_self _) ⟨r, h7, _, rfl, ⟨⟨tx9, F12.ns⟩, K4.up c7 (al4 B.lf fS fI fN), ⟨fin9 ++ [e.s], I9.pop hx⟩, ⟨⟨_, _, N12.get (.head _), iS⟩, ⟨_, _, N12.get (tl (.head _)), rfl⟩, ⟨oN6, _, N12.get (tl (tl (.head _))), hN6, kr1, fun p hp => vN9 p (kr2 p hp)⟩, ⟨oT9, c7 _ _ (nin4 nLT p3.symm p5.symm p6.symm) (kD _ (tl (tl (tl (.head _)))) _ gT9), hT9⟩⟩, ?_, ?_, xo9, xi9, sub9⟩, Nat.le_trans (Nat.add_le_add_left und_pop _) hle9, rfl⟩).1
            · exact E4.at fun b o hb q => c7 b o (fun z => hi5 b hb (by rcases z with _ | ⟨_, z⟩; exact .head _; rcases z with _ | ⟨_, z⟩; exact tl (.head _); rcases z with _ | ⟨_, z⟩; exact tl (tl (.head _)); rcases z with _ | ⟨_, z⟩; exact tl (tl (tl (.head _))); cases z)) q
            · exact kst _ _ st4 (al2 (fun o q => c7 _ o (nin4 nKL.symm wK.1 wK.2.1 wK.2.2.1) q) fun o q => c7 _ o (nin4 oL.n.symm oS.n.symm oI.n.symm oN'.n.symm) q)
  · rintro PE9 m h hh tk7 ⟨jm, jK, seen, fin, jI, jF, jP⟩ kb hn7
    have etk : ord.take (ℓ.tab ord).length = ord := List.take_of_length_le (by rw [List.length_map]; exact Nat.le_refl _)
    rw [etk] at jP
    have K7 := jK.up kb (List.forall_mem_singleton.mpr fK)
    obtain ⟨h₀9, tail9, F9, N9, off9, lt9, X9, ⟨mean9, mg9, mb9, T9⟩, hid9, bk9⟩ := rebase [] (G.keepS Fs K7) hn7 B.ln (fun _ q => absurd q List.not_mem_nil)
    have TR9 := topRead_of T9
    clear F5 N5 X T TR
    k_steps
    refine hQ1 _ _ (ret _ _ _ K7 (.inl ⟨rfl, fin, jI.fn, fun p => ⟨fun hp => (((jI.se p).mp (jP p hp)).resolve_right List.not_mem_nil), fun hp => jI.so p ((jI.se p).mpr (.inl hp))⟩, jI.nd⟩)))
end Mine
end
section
open PySem PySem.W PyProof.Rows PySem.Calls PySem.Spec
set_option Elab.async false
set_option maxRecDepth 100000
set_option maxHeartbeats 4000000
namespace Mine
section
variable {M : Model} {A : Around} {E : Value → Shared → Prop} {s : Shared}
/-- a comprehension's frame is made -/
theorem newCompEnv {scope : Scope} {globals : Addr} {cl : List (Str × Addr)} {qual : Str} {env : Env} {Q : Env → Shared → Prop}
    (hQ : Q { scope, locals := s.heap.objs.size, globals, cells := cellsFrom (s.heap.objs.size + 1) scope.names cl, qual, func := none, code := env.code, frame := env.frame, builtins := env.builtins } { s with heap := pushCells (s.heap.push { cls := .type "dict", data := .dict #[] }) scope.names }) :
    wpAny M A (newFunctionEnv scope globals cl [] qual none .none (some env)) Q E s := by
  simp only [newFunctionEnv, Option.isSome_some, if_true]
  refine wpAny_bind (wpAny_alloc ?_)
  refine wpAny_bind (wpAny_layCells _ (fun name kind cells => by cases hkc : kind == NameKind.cell <;> simp) _ _ _ _ ?_)
  rw [show ({ s with heap := s.heap.push { cls := .type "dict", data := .dict #[] } } : Shared).heap.objs.size = s.heap.objs.size + 1 from Heap.size_push ..]
  rw [List.forIn_nil]
  exact wpAny_bind (wpAny_pure (wpAny_pure hQ))
end
/-- the frame of a comprehension in env -/
noncomputable abbrev cEnv (scope : Scope) (cells : List (Str × Addr)) (C : Addr) (env : Env) : Env := compEnvC scope cells C env
section
variable {prog : Program} {w : World} {A : Around} {E : Value → Shared → Prop} {s : Shared} {env : Env} {elt iter tgt : PySem.Expr} {ifs : List PySem.Expr} {scope : Scope} {cl : List (Str × Addr)} {pos : Pos}
/-- what a comprehension's loop starts with -/
structure CSt (h h₁ : Heap) (D C : Addr) (cells : List (Str × Addr)) : Prop where
  dn : h.get? D = none
  cn : h.get? C = none
  lo : h.objs.size ≤ D ∧ h.objs.size ≤ C
  ne : D ≠ C
  ns : h₁.Ns C (fun _ => none)
  gD : h₁.get? D = some (W.listOf #[] 0)
  kp : Kp h h₁
  cell : ∀ n c, (n, c) ∈ cells → h₁.IsCell c none ∧ C < c
  apart : cells.Pairwise fun x y => x.2 ≠ y.2
theorem comp_start {s₂ : Shared} {I : Addr} {RR : Value → Addr → Result → Shared → Prop} (hself : ∀ (s : Shared) (Q : Value → Shared → Prop) (E : Value → Shared → Prop), (∀ b o, s₂.heap.get? b = some o → s.heap.get? b = some o) → Q (.ref I) s → wpAny (model prog w) A (pyIter (.ref I)) Q E s)
    (h : ∀ D C h₁, CSt s₂.heap h₁ D C (cellsFrom (C + 1) scope.names []) →
      codeAny (model prog w) A (.compLoop (.ListComp elt [⟨tgt, iter, ifs, 0⟩] scope pos) 0 (.ref I) (.ref D) (cEnv scope (cellsFrom (C + 1) scope.names cl) C env)) (RR (.ref D) C) { s₂ with heap := h₁ }) :
    wpAny (model prog w) A (newList []) (fun acc s₃ => wpAny (model prog w) A (newFunctionEnv scope env.globals cl [] env.qual none .none (some env)) (fun cenv s₄ =>
      codeAny (model prog w) A (.compStart (.ListComp elt [⟨tgt, iter, ifs, 0⟩] scope pos) 0 (.ref I) acc { cenv with scope := relabel scope env }) (RR acc cenv.locals) s₄) E s₃) E s₂ := by
  refine wpAny_newObj_type (newCompEnv ?_)
  dsimp only
  generalize hH2 : s₂.heap.push { cls := .type "list", dict := none, data := .seq ([] : List Value).toArray } = H2
  have hC : H2.objs.size = s₂.heap.objs.size + 1 := by rw [← hH2, Heap.size_push]
  have k2 : Kp s₂.heap H2 := fun b o e => hH2 ▸ Heap.get?_push_of_some _ e
  have k3 : Kp H2 (H2.push { cls := .type "dict", data := .dict #[] }) := fun b o e => Heap.get?_push_of_some _ e
  have k4 : Kp (H2.push { cls := .type "dict", data := .dict #[] }) (pushCells (H2.push { cls := .type "dict", data := .dict #[] }) scope.names) := fun b o e => pushCells_keeps _ _ b o e
  have ok := cellsFrom_ok scope.names (H2.push { cls := .type "dict", data := .dict #[] }) (H2.objs.size + 1) [] ⟨fun _ _ hm => (nomatch hm), List.Pairwise.nil⟩ (by rw [Heap.size_push]; exact Nat.le_refl _)
  rw [Heap.size_push] at ok
  have hlo : s₂.heap.objs.size ≤ H2.objs.size := by rw [hC]; exact Nat.le_succ _
  have st : CSt s₂.heap (pushCells (H2.push { cls := .type "dict", data := .dict #[] }) scope.names) s₂.heap.objs.size H2.objs.size (cellsFrom (H2.objs.size + 1) scope.names []) :=
    ⟨Heap.get?_none_of_le (Nat.le_refl _), Heap.get?_none_of_le hlo, ⟨Nat.le_refl _, hlo⟩, by rw [hC]; exact Nat.ne_of_lt (Nat.lt_succ_self _), (Heap.Ns.new H2 (.type "dict")).keeps k4, k4 _ _ (k3 _ _ (hH2 ▸ Heap.get?_push_size _ rfl)), (k2.trans k3).trans k4,
      fun n c hm => (ok.empty n c hm), ok.apart⟩
  have := h _ _ _ st
  exact codeAny_compStart_list this (hself _ _ _ st.kp this)
theorem compQ {Q : Value → Shared → Prop} (hclos : closureFor scope env = pure cl) (hkind : scope.kind = .function) (hnames : ∀ y ∈ scope.names, y.2 = .local → scope.names.lookup y.1 = some .local)
    (h : wpAny (model prog w) A (eval iter env) (fun xv s₁ => wpAny (model prog w) A (pyIter xv) (fun it s₂ => ∃ I, it = .ref I ∧ (∀ (s : Shared) (Q : Value → Shared → Prop) (E : Value → Shared → Prop), (∀ b o, s₂.heap.get? b = some o → s.heap.get? b = some o) → Q (.ref I) s → wpAny (model prog w) A (pyIter (.ref I)) Q E s) ∧
      ∀ D C h₁, CSt s₂.heap h₁ D C (cellsFrom (C + 1) scope.names []) →
        codeAny (model prog w) A (.compLoop (.ListComp elt [⟨tgt, iter, ifs, 0⟩] scope pos) 0 (.ref I) (.ref D) (cEnv scope (cellsFrom (C + 1) scope.names cl) C env)) (compPost (model prog w) A E none Q (.ref D) C) { s₂ with heap := h₁ }) E s₁) E s)
    (hs : ∀ x, foldedSetIterable iter env x = pure x := by intro _; rfl) :
    wpAny (model prog w) A (eval (.ListComp elt [⟨tgt, iter, ifs, 0⟩] scope pos) env) Q E s := by
  rw [eval_ListComp]
  refine wpAny_comprehension_free (use := none) rfl hs hclos hkind hnames (wpAny_mono h (fun xv s₁ h₁ => wpAny_mono h₁ (fun it s₂ h₂ => ?_) fun _ _ e => e) fun _ _ e => e)
  obtain ⟨I, rfl, hself, hl⟩ := h₂
  exact comp_start (RR := fun acc C => compPost (model prog w) A E none Q acc C) hself hl
theorem compAQ {y : Str} {py spos : Pos} {Q : Flow → Shared → Prop} (hsw : swapsWith (.ListComp elt [⟨tgt, iter, ifs, 0⟩] scope pos) (some (.Name y py)) spos.line env = pure true)
    (hclos : closureFor scope env = pure cl) (hkind : scope.kind = .function) (hnames : ∀ y ∈ scope.names, y.2 = .local → scope.names.lookup y.1 = some .local)
    (h : wpAny (model prog w) A (eval iter env) (fun xv s₁ => wpAny (model prog w) A (pyIter xv) (fun it s₂ => ∃ I, it = .ref I ∧ (∀ (s : Shared) (Q : Value → Shared → Prop) (E : Value → Shared → Prop), (∀ b o, s₂.heap.get? b = some o → s.heap.get? b = some o) → Q (.ref I) s → wpAny (model prog w) A (pyIter (.ref I)) Q E s) ∧
      ∀ D C h₁, CSt s₂.heap h₁ D C (cellsFrom (C + 1) scope.names []) →
        codeAny (model prog w) A (.compLoop (.ListComp elt [⟨tgt, iter, ifs, 0⟩] scope pos) 0 (.ref I) (.ref D) (cEnv scope (cellsFrom (C + 1) scope.names cl) C env)) (compPost (model prog w) A E (some (assign (.Name y py) env)) (fun _ s' => Q .next s') (.ref D) C) { s₂ with heap := h₁ }) E s₁) E s)
    (hs : ∀ x, foldedSetIterable iter env x = pure x := by intro _; rfl) :
    wpAny (model prog w) A (exec (.Assign [.Name y py] (.ListComp elt [⟨tgt, iter, ifs, 0⟩] scope pos) spos) env) Q E s := by
  rw [exec_Assign_Name_used _ _ _ _ hsw]
  refine wpAny_bind (wpAny_standAt (wpAny_bind ?_))
  show wpAny _ A (do let _ ← comprehension (.ListComp elt [⟨tgt, iter, ifs, 0⟩] scope pos) scope env _ (newList []) false (eval iter env) (some (assign (.Name y py) env))) _ _ s
  refine wpAny_bind (wpAny_mono (wpAny_comprehension_free (use := some (assign (.Name y py) env)) (Q := fun _ s' => Q .next s') rfl hs hclos hkind hnames
    (wpAny_mono h (fun xv s₁ h₁ => wpAny_mono h₁ (fun it s₂ h₂ => ?_) fun _ _ e => e) fun _ _ e => e)) (fun _ s' hq => wpAny_pure (wpAny_pure hq)) fun _ _ e => e)
  obtain ⟨I, rfl, hself, hl⟩ := h₂
  exact comp_start (RR := fun acc C => compPost (model prog w) A E (some (assign (.Name y py) env)) (fun _ s' => Q .next s') acc C) hself hl
/-- a comprehension's loop, by what holds between the turns -/
theorem compLoopQ {cenv : Env} {R : Result → Shared → Prop} {I D : Addr} {fp wr V : List Addr} {n : Nat} {P : Nat → Value → Prop} {St : Nat → Heap → Prop} {m : Str → Option Value}
    (J : Nat → List Value → Heap → Prop) (Wk : Walks prog w A I fp wr n P St) (hDf : D ∉ fp) (hDV : D ∉ V) (hfV : ∀ b ∈ fp, b ∉ V) (hCw : cenv.locals ∉ fp) (hCD : cenv.locals ≠ D)
    (st : St 0 s.heap) (hD : s.heap.get? D = some (W.listOf #[] 0)) (hn : s.heap.Ns cenv.locals m) (j : J 0 [] s.heap)
    (jf : ∀ i ys h h', J i ys h → KpB (D :: wr) h h' → J i ys h') (hsz : n ≤ sizeLine)
    (turn : ∀ (PT : List Value → Shared → Prop) (PE : Value → Shared → Prop) i v ys m h tk, (∀ ys' h' tk' m', KpB V h h' → h'.Ns cenv.locals m' → J (i + 1) ys' h' → ys'.length ≤ i + 1 → (∃ y, ys' = ys ++ [y] ∨ ys' = ys) → PT ys' { s with heap := h', toks := tk' }) →
      i < n → P i v → ys.length ≤ i → J i ys h → h.Ns cenv.locals m → h.get? D = some (W.listOf ys.toArray ys.length) → St (i + 1) h →
      wpAny (model prog w) A (assign tgt cenv v) (fun _ s₂ =>
          wpAny (model prog w) A (forIn ifs true fun c r => if r = true then do let ok ← isTrue c cenv (eval c cenv); pure (ForInStep.yield ok) else pure (ForInStep.yield r)) (fun ok s₃ =>
            if ok = true then wpAny (model prog w) A (eval elt cenv) (fun x s₄ => PT (ys ++ [x]) s₄) PE s₃ else PT ys s₃) PE s₂) PE { s with heap := h, toks := tk })
    (done : ∀ ys m h tk, J n ys h → h.Ns cenv.locals m → h.get? D = some (W.listOf ys.toArray ys.length) → ys.length ≤ n → R (.ok .next) { s with heap := h, toks := tk })
    (ht : ∀ v, letOwnedTupleGo tgt (.ref I) v = pure () := by intro _; rfl) :
    codeAny (model prog w) A (.compLoop (.ListComp elt [⟨tgt, iter, ifs, 0⟩] scope pos) 0 (.ref I) (.ref D) cenv) R s := by
  have hDw : D ∉ wr := fun h => hDf (Wk.sub _ h)
  have hCw' : cenv.locals ∉ wr := fun h => hCw (Wk.sub _ h)
  refine codeAny_compLoop_tests (fun k s' => ∃ i ys h tk m, s' = { s with heap := h, toks := tk } ∧ k = n - i ∧ i ≤ n ∧ St i h ∧ h.Ns cenv.locals m ∧ h.get? D = some (W.listOf ys.toArray ys.length) ∧ J i ys h ∧ ys.length ≤ i) ?_ n
    ⟨0, [], s.heap, s.toks, m, rfl, rfl, Nat.zero_le _, st, hn, hD, j, Nat.le_refl _⟩ ht
  rintro k s' ⟨i, ys, h, tk, m, rfl, rfl, hi, sti, hni, gD, ji, hl⟩
  by_cases hlt : i < n
  · refine Wk.item i _ _ _ hlt sti fun v h₁ tk₁ hP st₁ hk₁ => ?_
    have kb : KpB wr h h₁ := fun b o hb e => hk₁ b o hb e
    refine wpAny_mono (turn (fun ys' s₄ => ∃ h' tk' m', s₄ = { s with heap := h', toks := tk' } ∧ KpB V h₁ h' ∧ h'.Ns cenv.locals m' ∧ J (i + 1) ys' h' ∧ ys'.length ≤ i + 1 ∧ ∃ y, ys' = ys ++ [y] ∨ ys' = ys) _ i v ys m h₁ tk₁ (fun ys' h' tk' m' a b c d e => ⟨h', tk', m', rfl, a, b, c, d, e⟩) hlt hP hl (jf _ _ _ _ ji (kb.more fun a q => .tail _ q)) (hni.at' fun o e => hk₁ _ o hCw' e) (hk₁ _ _ hDw gD) st₁) (fun _ s₂ h₂ => ?_) fun _ _ e => e
    refine wpAny_mono h₂ (fun ok s₃ h₃ => ?_) fun _ _ e => e
    have key : ∀ (ys' : List Value) (h' : Heap), KpB V h₁ h' → h'.get? D = some (W.listOf ys.toArray ys.length) ∧ St (i + 1) h' := fun ys' h' kV => ⟨kV _ _ hDV (hk₁ _ _ hDw gD), Wk.frame _ _ _ st₁ fun b hb o e => kV b o (hfV b hb) e⟩
    cases ok with
    | false =>
      obtain ⟨h', tk', m', rfl, kV, n', j', l', y, e⟩ := h₃
      obtain ⟨d1, d2⟩ := key ys h' kV
      exact ⟨n - (i + 1), by exact Mine.q14 hlt, i + 1, ys, h', tk', m', rfl, rfl, hlt, d2, n', d1, j', l'⟩
    | true =>
      refine wpAny_mono h₃ (fun x s₄ h₄ => ?_) fun _ _ e => e
      obtain ⟨h', tk', m', rfl, kV, n', j', l', y, e⟩ := h₄
      obtain ⟨d1, d2⟩ := key ys h' kV
      have hz : (ys.toArray).size ≤ sizeLine := by rw [List.size_toArray]; exact Mine.q70 hsz hl hlt
      refine append_at (hsz := hz) d1 fun h₅ hs₅ ho₅ => ?_
      refine ⟨n - (i + 1), by exact Mine.q14 hlt, i + 1, ys ++ [x], h₅, tk', m', rfl, rfl, hlt, Wk.frame _ _ _ d2 fun b hb o q => hs₅.extBut b o (fun z => hDf (z ▸ hb)) q, n'.sameBut hs₅ hCD, ?_, jf _ _ _ _ j' fun b o hb q => hs₅.extBut b o (fun z => hb (z ▸ .head _)) q, l'⟩
      rw [ho₅, List.push_toArray, List.length_append]; rfl
  · obtain rfl : i = n := Nat.le_antisymm hi (Nat.le_of_not_lt hlt)
    exact Wk.done _ _ _ sti fun h₁ tk₁ hk₁ => done ys m h₁ tk₁ (jf _ _ _ _ ji fun b o hb e => hk₁ b o (fun q => hb (.tail _ q)) e) (hni.at' fun o e => hk₁ _ o hCw' e) (hk₁ _ _ hDw gD) hl
end
end Mine
end
section
open PySem PySem.W PyProof.Rows PySem.Calls PySem.Spec
set_option Elab.async false
set_option maxRecDepth 100000
set_option maxHeartbeats 4000000
namespace Mine
section
variable {M : Model} {A : Around} {E : Value → Shared → Prop} {s : Shared} {env : Env} {h₀ : Heap} {L : Addr} {m : Str → Option Value} {news : List (Addr × Obj)} {K : Frag} {mg mb : Str → Option Value} {p : Program} {loose : List Str} {x : Str} {pos : Pos} {v : Value} {Q : Value → Shared → Prop} {c : Addr} {o : Obj}
theorem nameE_L (F : Fr h₀ L s.heap m) (hv : m x = some v) (h : Q v s) (hL : env.locals = L) (hk : env.scope.kind = .function) (hx : env.kindOf x = some .local) (hd : (x == ("__debug__" : Str)) = false) : wpAny M A (eval (.Name x pos) env) Q E s := by
  subst hL
  exact wpAny_Name (wpAny_loadName_local hk hx F.ns hv h) hd
theorem nameE_C (N : News h₀ L s.heap news) (hc : env.cells.lookup x = some c) (hm : (c, o) ∈ news) (ho : o.data = .cell (some v)) (h : Q v s) (hk : env.scope.kind = .function) (hx : env.kindOf x = some .cell) (hd : (x == ("__debug__" : Str)) = false) : wpAny M A (eval (.Name x pos) env) Q E s :=
  wpAny_Name (wpAny_loadName_cell hk hx hc ⟨o, N.get hm, ho⟩ h) hd
theorem nameE_F (N : News h₀ L s.heap news) (hc : env.cells.lookup x = some c) (hm : (c, o) ∈ news) (ho : o.data = .cell (some v)) (h : Q v s) (hk : env.scope.kind = .function) (hx : env.kindOf x = some .free) (hd : (x == ("__debug__" : Str)) = false) (hn : (x == ("__classdict__" : Str)) = false) : wpAny M A (eval (.Name x pos) env) Q E s :=
  wpAny_Name (wpAny_loadName_free hk hx hc ⟨o, N.get hm, ho⟩ h hn) hd
theorem nameE_B (F : Fr h₀ L s.heap m) (X : K.In h₀) (T : TopRead p loose mg mb h₀) (e : nsIn K mainGlobals x = some none) (hv : bootBuiltins x = some v) (hn : x ≠ "__name__") (h : Q v s) (hg : env.globals = mainGlobals) (hb : env.builtins = builtinsNs) (hk : env.scope.kind = .function) (hx : env.kindOf x = some .globalImplicit) (hd : (x == ("__debug__" : Str)) = false) : wpAny M A (eval (.Name x pos) env) Q E s :=
  Name_function_global hk hx (loadGlobal_builtin (env := env) (by rw [hg]; exact T.g.keeps F.keep) (mg_none_of X T.g e) (by rw [hb]; exact T.b.keeps F.keep) ((T.builtins x hn).trans hv) h) hd
end
section
variable {M : Model} {A : Around} {E : Value → Shared → Prop} {s : Shared} {env : Env}
theorem test0 {f : PySem.Expr → Bool → Sem (ForInStep Bool)} {Q : Bool → Shared → Prop} (h : Q true s) : wpAny M A (forIn ([] : List PySem.Expr) true f) Q E s := by
  rw [List.forIn_nil]; exact wpAny_pure h
theorem test1 {c : PySem.Expr} {Q : Bool → Shared → Prop} (h : wpAny M A (isTrue c env (eval c env)) Q E s) :
    wpAny M A (forIn [c] true fun c r => if r = true then do let ok ← isTrue c env (eval c env); pure (ForInStep.yield ok) else pure (ForInStep.yield r)) Q E s := by
  rw [List.forIn_cons]
  simp only [if_true]
  refine wpAny_bind (wpAny_bind (wpAny_mono h (fun ok s' hq => wpAny_pure ?_) fun _ _ e => e))
  show wpAny M A (forIn ([] : List PySem.Expr) ok _) Q E s'
  rw [List.forIn_nil]
  exact wpAny_pure hq
theorem asgL {x : Str} {px : Pos} {v : Value} {C : Addr} {m : Str → Option Value} {Q : Unit → Shared → Prop} (hC : env.locals = C) (hx : env.kindOf x = some .local) (hp : (env.scope.kind == .class || (env.scope.kind == .module && env.locals != env.globals)) = false) (hn : s.heap.Ns C m)
    (h : ∀ h' tk, h'.Ns C (fun y => if y = x then some v else m y) → KpB [C] s.heap h' → Q () { s with heap := h', toks := tk }) : wpAny M A (assign (.Name x px) env v) Q E s := by
  subst hC
  exact wpAny_assign_Name (wpAny_storeName_local hx hn (fun h₂ hn₂ hs₂ => h _ _ hn₂ fun b o hb e => hs₂.extBut b o (fun z => hb (z ▸ .head _)) e) hp)
end
/-- the end of a comprehension -/
theorem compEnd {prog : Program} {w : World} {A : Around} {E : Value → Shared → Prop} {s : Shared} {Q : Value → Shared → Prop} {D C : Addr} {m : Str → Option Value} (hn : s.heap.Ns C m) (h : ∀ h', Heap.SameBut C s.heap h' → Q (.ref D) { s with heap := h' }) :
    compPost (model prog w) A E none Q (.ref D) C (.ok .next) s := ⟨m, hn, h⟩
theorem compAEnd {prog : Program} {w : World} {A : Around} {E : Value → Shared → Prop} {s : Shared} {Q : Value → Shared → Prop} {env : Env} {y : Str} {py : Pos} {D C L : Addr} {m mL : Str → Option Value} (hL : env.locals = L) (hy : env.kindOf y = some .local) (hp : (env.scope.kind == .class || (env.scope.kind == .module && env.locals != env.globals)) = false) (hn : s.heap.Ns C m) (hnL : s.heap.Ns L mL) (hne : L ≠ C)
    (h : ∀ h' tk, h'.Ns L (fun z => if z = y then some (.ref D) else mL z) → KpB [L, C] s.heap h' → Q .none { s with heap := h', toks := tk }) :
    compPost (model prog w) A E (some (assign (.Name y py) env)) Q (.ref D) C (.ok .next) s := by
  subst hL
  refine wpAny_assign_Name (wpAny_storeName_local hy hnL (fun h₂ hn₂ hs₂ => ?_) hp)
  exact ⟨m, hn.sameBut hs₂ (Ne.symm hne), fun h₃ hs₃ => h _ _ (hn₂.sameBut hs₃ hne) fun b o hb e => hs₃.extBut b o (fun z => hb (z ▸ .tail _ (.head _))) (hs₂.extBut b o (fun z => hb (z ▸ .head _)) e)⟩
/-- as rebase, where what is written may be fresh -/
theorem rebaseF {w : World} {n₀ : Nat} {hs h : Heap} {L : Addr} {m : Str → Option Value} (W : List (Addr × Obj)) (G : Gd w n₀ hs) (kp : Kp hs h) (hn : h.Ns L m) (hL : n₀ ≤ L) (hW : ∀ p ∈ W, h.get? p.1 = some p.2 ∧ p.1 ≠ L ∧ (n₀ ≤ p.1 ∨ hs.get? p.1 = none)) :
    ∃ h₀ tail, Base w h L W m h₀ tail := by
  have key : ∃ g, Gd0 w n₀ g ∧ Kp g (hideAll (cutAt h L) (W.map (·.1))) := by
    obtain ⟨g, q, k⟩ := G
    refine ⟨g, q, fun b o e => hideAll_get _ (cutAt_get (kp b o (k b o e)) ?_) fun hm => ?_⟩
    · exact Nat.lt_of_lt_of_le (Heap.lt_size e) (Nat.le_trans q.size hL)
    · obtain ⟨p, hp, rfl⟩ := List.mem_map.mp hm
      rcases (hW p hp).2.2 with z | z
      · exact absurd (Heap.lt_size e) (Nat.not_lt.mpr (Nat.le_trans q.size z))
      · rw [k _ _ e] at z; cases z
  obtain ⟨g, q, k⟩ := key
  refine ⟨hideAll (cutAt h L) (W.map (·.1)), above h L (W.map (·.1)), ⟨hn, fun b o e => (of_cutAt (of_hideAll _ e)).1, ?_⟩, fun p hp => ?_, fun p hp => (mem_above.mp hp).2.2, fun p hp => Heap.lt_size (mem_above.mp hp).1, ?_, ?_, fun a o e hl hw => hideAll_get _ (cutAt_get e hl) hw, fun h' m' news' F N ht b o hb e => ?_⟩
  · rw [hideAll_size]; exact cutAt_size _ _
  · rcases List.mem_append.mp hp with q | q
    · exact ⟨(hW p q).1, (hW p q).2.1, hideAll_none _ (List.mem_map_of_mem q)⟩
    · obtain ⟨h1, h2, _⟩ := mem_above.mp q
      refine ⟨h1, Nat.ne_of_gt h2, ?_⟩
      cases e : (hideAll (cutAt h L) (W.map (·.1))).get? p.1 with
      | none => rfl
      | some o => exact absurd (of_cutAt (of_hideAll _ e)).2 (Nat.not_lt.mpr (Nat.le_of_lt h2))
  · exact q.X.keeps k
  · obtain ⟨a, b, c, T⟩ := q.T
    exact ⟨a, b, c, T.keeps k⟩
  · rw [List.mem_cons, not_or] at hb
    by_cases hlt : b < L
    · exact F.keep b o (hideAll_get _ (cutAt_get e hlt) hb.2)
    · have hgt : L < b := Nat.lt_of_le_of_ne (Nat.le_of_not_lt hlt) (Ne.symm hb.1)
      exact (N (b, o) (ht _ (mem_above.mpr ⟨e, hgt, hb.2⟩))).1
section
variable {P : Prop} {w : World} {n₀ : Nat} {hs h : Heap} {L : Addr} {m : Str → Option Value} (W : List (Addr × Obj))
theorem rebaseFK (G : Gd w n₀ hs) (kp : Kp hs h) (hn : h.Ns L m) (hL : n₀ ≤ L) (hW : ∀ p ∈ W, h.get? p.1 = some p.2 ∧ p.1 ≠ L ∧ (n₀ ≤ p.1 ∨ hs.get? p.1 = none))
    (k : ∀ h₀ tail, Fr h₀ L h m → News h₀ L h (W ++ tail) → (∀ p ∈ tail, p.1 ∉ W.map (·.1)) → (∀ p ∈ tail, p.1 < h.objs.size) → (Mine.hd.heap_1 w.params).In h₀ → ∀ mean mg mb, Top V39 LO mean mg mb h₀ →
      (∀ a o, h.get? a = some o → a < L → a ∉ W.map (·.1) → h₀.get? a = some o) → (∀ h' m' news', Fr h₀ L h' m' → News h₀ L h' news' → (∀ p ∈ tail, p ∈ news') → KpB (L :: W.map (·.1)) h h') → P) : P :=
  let ⟨_, _, B⟩ := rebaseF W G kp hn hL hW
  let ⟨_, _, _, T⟩ := B.T
  k _ _ B.fr B.nw B.off B.lt B.X _ _ _ T B.hid B.bk
end
theorem cells_mem {cm : Str → Option Value} {cs : List (Str × Addr)} {cells : List (Addr × Obj)} (Y : CellsAre cm cs cells) : ∀ p ∈ cells, ∃ n, (n, p.1) ∈ cs := by
  induction Y with
  | nil => exact fun p hp => absurd hp List.not_mem_nil
  | @cons n c o cs cells _ _ ih =>
    intro p hp
    rcases List.mem_cons.mp hp with e | hp
    · exact ⟨n, by rw [e]; exact .head _⟩
    · obtain ⟨n', q⟩ := ih p hp
      exact ⟨n', .tail _ q⟩
section
variable {prog : Program} {w : World} {n₀ : Nat} {A : Around} {s : Shared} {R : Result → Shared → Prop} {name qual : Str} {params : Arguments} {body : List Stmt} {scope : Scope} {dV kV doc pm cdv ct oc : Value} {an od : Option Addr} {osl : Array (Option Value)} {f : Addr} {args : Args} {d u : Nat}
/-- a def with cells is entered -/
theorem startC {K : Frag} (W : List (Addr × Obj)) (binds : List (Str × Value)) (r : Rm A (d + 1) (u + 3)) (KX : ∀ h, (Mine.hd.heap_1 w.params).In h → K.In h) (G : Gd w n₀ s.heap) (hs : n₀ ≤ s.heap.objs.size) (hW : AllAt s.heap n₀ W)
    (ho : K.lookup f = some ⟨oc, od, .func (fnOf name qual params body scope dV kV doc pm an cdv ct), osl⟩) (hcd : codeIn K cdv qual = true)
    (hbind : BindsTo s (fnOf name qual params body scope dV kV doc pm an cdv ct) args binds) (hkind : (binds.all fun y => scope.names.lookup y.1 == some .local || scope.names.lookup y.1 == some .cell) = true)
    (hnd : ((cellsFrom 0 scope.names []).map (·.1)).Nodup)
    (h : ∀ (A' : Around) (PQ : Flow → Shared → Prop) (PE : Value → Shared → Prop) h₁ h₀ L tail mean mg mb tk cells, Rm A' d u → (∀ v s', R (.ok (.ret v)) s' → PQ (.ret v) s') → (∀ s', R (.ok (.ret .none)) s' → PQ .next s') →
      (∀ es, A.frames = some es → A'.frames = some (envOfC qual scope L f cdv :: es)) →
      CellsAre (bindC (envOfC qual scope L f cdv).kindOf binds fun _ => none) (cellsFrom (L + 1) scope.names []) cells → (∀ p ∈ cells, s.heap.get? p.1 = none) →
      Std w n₀ s.heap (cells ++ W) h₀ L tail → Fr h₀ L h₁ (bindL (envOfC qual scope L f cdv).kindOf binds fun _ => none) → News h₀ L h₁ (cells ++ W ++ tail) → K.In h₀ → Top V39 LO mean mg mb h₀ →
      wpAny (model prog w) A' (execs body (envOfC qual scope L f cdv)) PQ PE { s with heap := h₁, toks := tk })
    (hco : scope.isCoroutine = false) (hgen : scope.isGenerator = false) (hk : scope.kind = .function) : codeAny (model prog w) A (.call (.ref f) args) R s := by
  refine codeAny_call_function (fd := fnOf name qual params body scope dV kV doc pm an cdv ct) (by have := r.hd; exact Mine.q33 this) (KX _ G.X _ _ ho) rfl hco hgen rfl (codeRec_of (KX _ G.X) hcd) (hbind _ _ _ _ ?_)
  refine wpAny_newFunctionEnv_cells hk (kindsX hkind _) fun env' he s' x => ?_
  subst he
  refine ⟨G.nolimit.keeps x.toInCall.keep, codeAny_func ?_⟩
  obtain ⟨h₁, tk, rfl, _⟩ := x.done
  have hk₁ := x.toInCall.keep
  obtain ⟨cells, NC, Y⟩ := Cl.news (h₀ := s.heap) (Nat.le_refl _) fun n c hm => ⟨x.cell n c (lookup_of_mem_nodup (cellsFrom_names scope.names 0 (s.heap.objs.size + 1) [] [] rfl ▸ hnd) hm), x.above n c hm⟩
  have hcn : ∀ p ∈ cells, s.heap.get? p.1 = none := fun p hp => (NC p hp).2.2
  obtain ⟨h₀, tail, mean, mg, mb, B, F, N, X', T⟩ := stdOf (cells ++ W) G hs (fun b o e => hk₁ b o e) x.toInCall.ns (Nat.le_refl _) (fun p hp => by
    rcases List.mem_append.mp hp with hp | hp
    · obtain ⟨n, hn⟩ := cells_mem Y p hp
      exact ⟨(NC p hp).1, (NC p hp).2.1, Nat.le_trans hs (Nat.le_of_lt (x.above n _ hn))⟩
    · exact ⟨hk₁ _ _ (hW.mem p hp).1, Nat.ne_of_lt (Heap.lt_size (hW.mem p hp).1), (hW.mem p hp).2⟩)
  exact h _ _ _ h₁ h₀ _ tail mean mg mb tk cells r.deeper (fun _ _ q => q) (fun _ q => q) (fun es hf => Around.frames_deeper hf) Y hcn B F N (KX _ X') T
end
end Mine
end
section
open PySem PySem.W PyProof.Rows PySem.Calls PySem.Spec
set_option Elab.async false
set_option maxRecDepth 100000
set_option maxHeartbeats 4000000
namespace Mine
theorem fillK8 : (PySem.Challenge.rw_oc0253_01, Mine.hd.heap_1) = (PySem.Challenge.rw_oc0253_01, Mine.hd.heap_1) := by k_fill; rfl
local macro_rules
  | `(tactic| walk_at "eval Name") => `(tactic| ((with_reducible show wpAny _ _ (eval (PySem.Expr.Name _ _) (cEnv _ _ _ _)) _ _ _); (with_reducible rename Fr _ _ _ _ => kF); k_dflt (refine nameE_L kF rfl ?_ rfl rfl rfl rfl)))
theorem ffOn {h h' base base' : Heap} : ∀ {l : List Env}, (∀ b ∈ frs l, ∀ o, h.get? b = some o → ∃ o', h'.get? b = some o' ∧ o'.data = o.data) → (∀ b ∈ frs l, base'.get? b = none) → h.FunFrames base l → h'.FunFrames base' l
  | [], _, _, _ => trivial
  | env :: l, k, kb, ⟨hk, ⟨L, o, hf, hn, ho, hd⟩, hr⟩ => by
    have hm : L ∈ frs (env :: l) := List.mem_filterMap.mpr ⟨env, .head _, hf⟩
    have up : ∀ b ∈ frs l, b ∈ frs (env :: l) := fun b hb => by
      obtain ⟨e', h1, h2⟩ := List.mem_filterMap.mp hb
      exact List.mem_filterMap.mpr ⟨e', .tail _ h1, h2⟩
    obtain ⟨o', ho', hd'⟩ := k L hm o ho
    exact ⟨hk, ⟨L, o', hf, kb L hm, ho', fun vs => hd' ▸ hd vs⟩, ffOn (fun b hb => k b (up b hb)) (fun b hb => kb b (up b hb)) hr⟩
theorem Frs.on {A : Around} {es : List Env} {n₀ : Nat} {h h' : Heap} (f : Frs A es n₀ h) (k : ∀ b ∈ frs es, ∀ o, h.get? b = some o → ∃ o', h'.get? b = some o' ∧ o'.data = o.data) : Frs A es n₀ h' := ⟨f.fr, ffOn k (fun _ _ => rfl) f.ff, f.lo⟩
theorem hide_none {h : Heap} (as : List Addr) {a : Addr} (e : h.get? a = none) : (hideAll h as).get? a = none := by
  cases q : (hideAll h as).get? a with
  | none => rfl
  | some o => rw [of_hideAll _ q] at e; cases e
theorem prepC {prog : Program} {w : World} {n₀ : Nat} {A : Around} {s : Shared} {Q E : Value → Shared → Prop} (G : Gd w n₀ s.heap) (r : Rm A 8 60) {es : List Env} (Fs : Frs A es n₀ s.heap)
    {S : Addr} {ℓ : SL} {ord : List Int} {np : Int → Int} {su : Int → List Int} {po fi : Int} (H : SrtH prog w n₀ s.heap S ℓ ord np su .none po fi) (hoff : ∀ a ∈ frs es, Off S ℓ ord a)
    (hol : ord.length ≤ 1000) (hsu : ∀ k ∈ ord, ∀ x ∈ su k, x ∈ ord)
    (ret1 : ∀ h' tk R rs rn, KpI (frs es) ℓ.dS s.heap h' → SrtH prog w n₀ h' S ℓ ord np su (.ref R) po fi → h'.get? R = some (W.listOf rs rn) → IntsAre rs.toList (ord.filter fun k => decide (np k = 0)) → s.heap.get? R = none → n₀ ≤ R → Gd w n₀ h' →
      (∃ fin, Fin su fin ∧ (∀ p, p ∈ ord ↔ p ∈ fin) ∧ fin.Nodup) → Q .none { s with heap := h', toks := tk })
    (ret2 : ∀ hm h' tk e B a0 R rs rn Lx, KpI (frs es) ℓ.dS s.heap hm → SrtH prog w n₀ hm S ℓ ord np su (.ref R) po fi → hm.get? R = some (W.listOf rs rn) → IntsAre rs.toList (ord.filter fun k => decide (np k = 0)) → s.heap.get? R = none → n₀ ≤ R → Gd w n₀ hm →
      (∃ (C : List Int) (x : Int), x ∈ C ∧ (∀ p ∈ C, p ∈ ord) ∧ ∀ p ∈ C, ∃ q ∈ C, p ∈ su q) → Heap.FlyingW B es e (.ref 82) a0 h' → s.heap.get? Lx = none → R ≠ Lx → (∀ b o, b ∉ frs es → b ≠ Lx → hm.get? b = some o → B.get? b = some o) → hm.UpToSlots h' → E (.ref e) { s with heap := h', toks := tk }) :
    wpAny (model prog w) A (call (.ref 119) [.ref S]) Q E s := by
  w_on
  refine wpAny_call ?_
  obtain ⟨k0, k1, k2, k3, t1, t2, dn, hdS⟩ := H.dict
  obtain ⟨oD, hoD, hD⟩ := H.tab
  refine' startF (K := Mine.hd.heap_1 w.params) [(S, instObj 164 ℓ.dS), (ℓ.dS, dictOf (srtD w k0 k1 k2 k3 (.ref ℓ.n2) .none (.int po t1) (.int fi t2)) dn), (ℓ.n2, oD)] [(Str.ofString "self", .ref S)] (d := 7) (u := 57) r Fs.fr (fun _ q => q) G H.size ⟨⟨H.inst, H.lo.1⟩, ⟨hdS, H.lo.2.1⟩, ⟨hoD, H.lo.2.2.1⟩, trivial⟩ ?k4 ?k5 ?k7 ?k8 ?_ ?c2 ?c3 ?c4 ?c5
  (case k4 => k_is)
  (case k5 => k_is)
  (case k7 => exact BindsTo.of_eq rfl)
  (case k8 => exact locs rfl)
  (case c2 => exact rfl)
  (case c3 => exact rfl)
  (case c4 => exact rfl)
  (case c5 => decide)
  intro A' PQ PE h₁ h₀ L tail mean mg mb tk0 hfr rA hQ1 hQ2 hPE B F N X T
  simp only [List.cons_append, List.nil_append] at N
  have TR := topRead_of T
  w_strict (
  k_steps
  refine compQ (cl := []) (by with_unfolding_all rfl) rfl (by decide) ?_
  k_steps
  refine kdl_view_values (by assumption) (by assumption) (by k_mem) hD H.sm ?_
  intro V h2 F2 N2 l2
  k_steps
  have gO2 := N2.get (show (ℓ.n2, oD) ∈ _ by k_mem)
  obtain ⟨ep, hDA⟩ := (Heap.dictOf_iff.mpr ⟨oD, gO2, hD⟩).dictAt
  have kp2 : Kp s.heap h2 := ((B.fin _ _ _ F2 N2 fun q hq => tl (tl (tl (tl hq)))).less (al3 (.inr ⟨_, H.inst, N2.get (by k_mem)⟩) (.inr ⟨_, hdS, N2.get (by k_mem)⟩) (.inr ⟨_, hoD, gO2⟩))).kp
  have hln2 : (ℓ.n2 : Nat) < h2.objs.size := Heap.lt_size gO2
  refine wpAny_pyIter_values ⟨_, N2.get (.head _), rfl, rfl⟩ hDA ?_
  refine ⟨_, rfl, fun s' Q' E' hk hq => wpAny_pyIter_valiter ⟨_, hk _ _ (Heap.get?_push_size _ rfl), rfl, rfl⟩ hq, ?_⟩
  intro D C h3 CS
  obtain ⟨cz1, cz2⟩ := CS.lo
  have cz1' : h2.objs.size < (D : Nat) := Nat.lt_of_lt_of_le (by rw [Heap.size_push]; exact Nat.lt_succ_self _) cz1
  have cz2' : h2.objs.size < (C : Nat) := Nat.lt_of_lt_of_le (by rw [Heap.size_push]; exact Nat.lt_succ_self _) cz2
  have kp3 : Kp h2 h3 := fun b o e => CS.kp _ _ (Heap.get?_push_of_some _ e)
  have k2n {W : List Addr} (hW : ∀ a ∈ W, h2.objs.size ≤ (a : Nat)) {h h' : Heap} (k : Kp h2 h) (kb : KpB W h h') : Kp h2 h' := fun b o e => kb b o (fun q => absurd (Heap.lt_size e) (Nat.not_lt.mpr (hW b q))) (k b o e)
  refine compLoopQ (V := [C]) (fun i ys h => Kp h2 h ∧ IntsAre ys ((ord.take i).filter fun k => decide (np k = 0))) (Walks.dictValues (knd := intKind prog w) (A := A') rA.hh h2.objs.size ℓ.n2 (Nat.ne_of_lt hln2) (ℓ.tab ord) ep) (nin2 (Nat.ne_of_gt cz1') (Nat.ne_of_gt (Nat.lt_trans hln2 cz1'))) (nin1 CS.ne) (al2 (nin1 (Nat.ne_of_lt cz2')) (nin1 (Nat.ne_of_lt (Nat.lt_trans hln2 cz2')))) (nin2 (Nat.ne_of_gt cz2') (Nat.ne_of_gt (Nat.lt_trans hln2 cz2'))) CS.ne.symm ⟨⟨_, CS.kp _ _ (Heap.get?_push_size _ rfl), rfl, rfl⟩, (hDA.push _).at' fun o e => CS.kp _ _ e⟩ CS.gD CS.ns ⟨kp3, .nil⟩ (fun i ys h h' hj kb => ⟨k2n (al2 (Nat.le_of_lt cz1') (Nat.le_refl _)) hj.1 kb, hj.2⟩) ?_ ?_ ?_ (by intro _; rfl)
  · rw [sizeLine_eq, List.length_map]; exact Mine.q34 hol
  · intro PT PE5 i v ys m h tk hPT hi hv hys hj hn gD st
    obtain ⟨k, hk⟩ := hv
    have hko : ord[i]? = some k := by
      rw [List.getElem?_map] at hk
      obtain ⟨y, q1, q2⟩ := Option.map_eq_some_iff.mp hk
      rw [q1]; exact congrArg some (congrArg Prod.fst q2)
    have hkm := List.mem_of_getElem? hko
    obtain rfl : v = .ref (ℓ.ia k) := by
      rw [List.getElem?_map, hko] at hk
      exact (Prod.mk.inj (Option.some.inj hk)).2.symm
    refine asgL rfl rfl rfl hn fun h4 tk4 hn4 kb4 => ?_
    have K4 := k2n (List.forall_mem_singleton.mpr (Nat.le_of_lt cz2')) hj.1 kb4
    have H4 := H.keepK (kp2.trans K4)
    obtain ⟨t, u, gi, gx⟩ := H4.info k hkm
    have zi := ltN (Heap.lt_size gi)
    have nC : ∀ b o, s.heap.get? b = some o → (b : Nat) ≠ C := fun b o e => Nat.ne_of_lt (Nat.lt_trans (Heap.lt_size (kp2 b o e)) cz2')
    obtain ⟨_, _, gi0, gx0⟩ := H.info k hkm
    refine rebaseK [(ℓ.ia k, niObj (ℓ.dx k) k t (np k) u (ℓ.la k)), (ℓ.dx k, dictOf [] 0)] (G.keep (kp2.trans K4)) hn4 (Nat.le_trans B.ln (Nat.le_of_lt (Nat.lt_trans F2.ns.lt cz2'))) (al2 ⟨gi, nC _ _ gi0, (H.lo.2.2.2 k hkm).1⟩ ⟨gx, nC _ _ gx0, (H.lo.2.2.2 k hkm).2.2⟩) fun h₀9 tail9 F9 N9 off9 lt9 X9 mean9 mg9 mb9 T9 hid9 bk9 => ?_
    simp only [List.cons_append, List.nil_append] at N9 F9
    have TR9 := topRead_of T9
    refine test1 ?_
    dsimp only
    have etk : ord.take (i + 1) = ord.take i ++ [k] := by rw [List.take_add_one, hko]; rfl
    k_steps
    · rename_i hz
      refine hPT _ _ _ _ kb4 hn4 ⟨K4, ?_⟩ (by rw [List.length_append]; exact Nat.succ_le_succ hys) ⟨_, .inl rfl⟩
      rw [etk, List.filter_append, List.filter_cons_of_pos (by exact decide_eq_true hz), List.filter_nil]
      exact hj.2.append (.cons k t .nil)
    · rename_i hz
      refine hPT _ _ _ _ kb4 hn4 ⟨K4, ?_⟩ (Nat.le_succ_of_le hys) ⟨.none, .inr rfl⟩
      rw [etk, List.filter_append, List.filter_cons_of_neg (by simpa using hz), List.filter_nil, List.append_nil]
      exact hj.2
  · rintro ys m h tk ⟨hj1, hj2⟩ hn gD hl
    rw [show ord.take (ℓ.tab ord).length = ord from List.take_of_length_le (by rw [List.length_map]; exact Nat.le_refl _)] at hj2
    rw [List.length_map] at hl
    refine compEnd hn fun h5 sb5 => ?_
    have K5 : Kp h2 h5 := fun b o e => sb5.extBut b o (Nat.ne_of_lt (Nat.lt_trans (Heap.lt_size e) cz2')) (hj1 b o e)
    have gD5 := sb5.extBut D _ CS.ne gD
    have hn5 := F2.ns.keeps K5
    have fD : s.heap.get? D = none := by
      cases e : s.heap.get? D with
      | none => rfl
      | some o => exact absurd (Heap.lt_size (kp2 _ _ e)) (Nat.not_lt.mpr (Nat.le_of_lt cz1'))
    have H5 := H.keepK (kp2.trans K5)
    have oD' := Off.none H fD
    have oL := Off.none H B.lf
    have nDL : (D : Nat) ≠ L := Nat.ne_of_gt (Nat.lt_trans F2.ns.lt cz1')
    obtain ⟨lo1, lo2, lo3, lo4⟩ := H.lo
    have bD : n₀ ≤ D := Nat.le_trans B.ln (Nat.le_of_lt (Nat.lt_trans F2.ns.lt cz1'))
    clear F N F2 N2
    have g1 := (kp2.trans K5) _ _ H.inst
    have g2 := (kp2.trans K5) _ _ hdS
    refine rebaseK [(S, instObj 164 ℓ.dS), (ℓ.dS, dictOf (srtD w k0 k1 k2 k3 (.ref ℓ.n2) .none (.int po t1) (.int fi t2)) dn)] (G.keep (kp2.trans K5)) hn5 B.ln (al2 ⟨g1, oL.s.symm, lo1⟩ ⟨g2, oL.d.symm, lo2⟩) fun h₀9 tail9 F9 N9 off9 lt9 X9 mean9 mg9 mb9 T9 hid9 bk9 => ?_
    simp only [List.cons_append, List.nil_append] at N9 F9
    have TR9 := topRead_of T9
    have ne1 := neN H.neSd
    have tl1 : ∀ q ∈ tail9, q.1 ≠ ℓ.dS := fun q hq e => off9 q hq (e ▸ .tail _ (.head _))
    dsimp only
    k_steps
    refine' set_dict ?k1 ?k2 ?k3 ?k4 ?k5 ?k6 ?k7 ?k8 ?k9 ?k10 ?k11 ?k12 ?k13 ?_
    (case k1 => k_asm)
    (case k2 => k_asm)
    (case k3 => k_asm)
    (case k4 => k_inst)
    (case k5 => exact rfl)
    (case k6 => k_is)
    (case k7 => k_is)
    (case k8 => k_is)
    (case k9 => k_is)
    (case k10 => k_get)
    (case k11 => exact put_rd)
    (case k12 => k_upd)
    (case k13 => exact Nat.le_of_ble_eq_true rfl)
    k_whole
    intro h9 F10 N10
    dsimp only at N10 ⊢
    clear F9 N9
    k_steps
    have c9 := (bk9 _ _ _ F10 N10 fun q hq => tl (tl hq)).less (W' := [L, ℓ.dS]) (al3 (.inl (.head _)) (.inr ⟨_, g1, N10.get (by k_mem)⟩) (.inl (tl (.head _))))
    have H9 := H5.setD c9 (al2 (.inr oL) (.inl rfl)) ⟨_, _, _, _, _, _, _, N10.get (by k_mem)⟩
    have G9 : Gd w n₀ h9 := (G.keep (kp2.trans K5)).keepB c9 (al2 B.ln lo2)
    have gD9 := c9 _ _ (nin2 nDL oD'.d) gD5
    have fdS : ∀ a ∈ frs es, a ≠ ℓ.dS := fun a ha => (hoff a ha).d
    have nLf : ∀ a ∈ frs es, a ≠ L := fun a ha e => by
      obtain ⟨_, o, ho, _⟩ := Fs.ff.mem ha
      rw [e, B.lf] at ho; cases ho
    have Fs9' := Fs.on (h' := h9) fun b hb o e => ⟨o, c9 b o (nin2 (nLf b hb) (fdS b hb)) ((kp2.trans K5) b o e), rfl⟩
    refine findC (es := envOf _ _ L 119 _ :: es) G9 (rA.less (by exact Mine.q39) (by exact Mine.q71)) ⟨hfr, Heap.FunFrames.cons (by intro q; cases q) rfl F10.ns rfl Fs9'.ff, List.forall_mem_cons.mpr ⟨B.ln, Fs.lo⟩⟩ H9 (List.forall_mem_cons.mpr ⟨oL, hoff⟩) hol hsu ?_
    intro h10 tk10 v K10 hres
    dsimp only
    have hn10 := ns_slots F10.ns fun o e => K10.sl L o e
    have lo10 : ∀ a ∈ L :: frs es, n₀ ≤ a := List.forall_mem_cons.mpr ⟨B.ln, Fs.lo⟩
    have G10 := G9.keepB K10.kp lo10
    have H10 := H9.keep K10.kp (List.forall_mem_cons.mpr ⟨oL, hoff⟩)
    have nDf : D ∉ L :: frs es := fun q => by
      rcases List.mem_cons.mp q with q | q
      · exact nDL q
      · obtain ⟨_, o, ho, _⟩ := Fs.ff.mem q
        rw [fD] at ho; cases ho
    have gD10 := K10.kp _ _ nDf gD9
    have KI : ∀ h' (W' : List Addr), KpB W' h10 h' → (∀ a ∈ W', s.heap.get? a = none) → KpI (frs es) ℓ.dS s.heap h' := fun h' W' kb hW => by
      have no {b : Addr} {o : Obj} (e : s.heap.get? b = some o) : b ∉ W' ∧ b ≠ L := ⟨fun q => (by rw [hW b q] at e; cases e), fun q => (by rw [q, B.lf] at e; cases e)⟩
      refine ⟨fun b o h1 h2 e => kb b o (no e).1 (K10.kp b o (fun q => (List.mem_cons.mp q).elim (no e).2 h2) (c9 b o (nin2 (no e).2 h1) ((kp2.trans K5) b o e))), fun b o h1 e => ?_⟩
      obtain ⟨sl, q⟩ := K10.sl b o (c9 b o (nin2 (no e).2 h1) ((kp2.trans K5) b o e))
      exact ⟨sl, kb b _ (no e).1 q⟩
    clear F10 N10 T9 TR9 X9 bk9
    rcases hres with ⟨rfl, hfin⟩ | ⟨⟨l, vs, n, rfl, gl, z1, z2⟩, hring⟩
    · refine rebaseK [] G10 hn10 B.ln (fun _ q => absurd q List.not_mem_nil) fun h₀9 tail9 F9 N9 off9 lt9 X9 mean9 mg9 mb9 T9 hid9 bk9 => ?_
      simp only [List.nil_append] at N9 F9
      have TR9 := topRead_of T9
      k_steps
      (rename Fr _ _ _ _ => F12); (rename News _ _ _ _ => N12)
      have c12 := bk9 _ _ _ F12 N12 fun q hq => hq
      exact hQ2 _ (ret1 _ _ D _ _ (KI _ _ c12 (List.forall_mem_singleton.mpr B.lf)) (H10.keep c12 (List.forall_mem_singleton.mpr oL)) (c12 _ _ (nin1 nDL) gD10) hj2 fD bD (G10.keepB c12 (List.forall_mem_singleton.mpr B.ln)) hfin)
    · refine rebaseK [] G10 hn10 B.ln (fun _ q => absurd q List.not_mem_nil) fun h₀9 tail9 F9 N9 off9 lt9 X9 mean9 mg9 mb9 T9 hid9 bk9 => ?_
      simp only [List.nil_append] at N9 F9
      have TR9 := topRead_of T9
      k_steps
      (rename Fr _ _ _ _ => F12); (rename News _ _ _ _ => N12)
      have c12 := bk9 _ _ _ F12 N12 fun q hq => hq
      have nlL : l ≠ L := fun e => by
        obtain ⟨o, _, _, ho, hd, _⟩ := hn10
        rw [← e, gl] at ho; cases ho; cases hd
      have gl12 := c12 _ _ (nin1 nlL) gl
      refine wpAny_truthy_list (items := vs) (IsL.isList gl12) (by omega) ?_
      rw [show (!vs.isEmpty) = true by rw [Array.isEmpty_eq_false_iff.mpr]; rfl; intro q; rw [q] at z1; cases z1]
      have hhA := rA.hh
      k_steps
      (rename Heap.MadeExcOf _ _ _ _ _ => MX)
      dsimp only at MX
      have H12 := H10.keep c12 (List.forall_mem_singleton.mpr oL)
      have ns12 := F12.ns.keeps MX.keeps
      obtain ⟨tp, he, _, _⟩ := MX.there
      have nLf' : ∀ b ∈ frs es, b ∉ [L] := fun b hb => nin1 (nLf b hb)
      have hen := MX.new
      refine hPE _ _ (wpAny_leaving_firstW (base := hideAll _ (L :: frs es)) (a0 := .ref tp) hfr (Heap.FunFrames.cons (by intro q; cases q) rfl ns12 (hideAll_none _ (.head _)) (ffOn (fun b hb o q => ?_) (fun b hb => hideAll_none _ (.tail _ hb)) Fs9'.ff)) rfl he (fun b o q => MX.keeps b o (of_hideAll _ q)) (hide_none _ hen) rfl rfl rfl fun h' hL => ?_)
      · obtain ⟨sl, q1⟩ := K10.sl b o q
        exact ⟨_, MX.keeps _ _ (c12 b _ (nLf' b hb) q1), rfl⟩
      · obtain ⟨k1, ⟨_, _, k2⟩, k3, k4⟩ := hL
        exact ret2 _ h' _ _ _ _ D _ _ L (KI _ _ c12 (List.forall_mem_singleton.mpr B.lf)) H12 (c12 _ _ (nin1 nDL) gD10) hj2 fD bD (G10.keepB c12 (List.forall_mem_singleton.mpr B.ln)) hring ⟨k1, hide_none _ hen, k2, k3⟩ B.lf nDL (fun b o hb hb2 q => hideAll_get _ q fun z => (List.mem_cons.mp z).elim hb2 hb) ((Heap.UpToSlots.of_keeps MX.keeps).trans k4))
end Mine
end
section
open PySem PySem.W PyProof.Rows PySem.Calls PySem.Spec
set_option Elab.async false
set_option maxRecDepth 100000
set_option maxHeartbeats 4000000
namespace Mine
section
variable {prog : Program} {w : World} {A : Around} {E : Value → Shared → Prop} {s : Shared}
theorem collect_tup {l : Addr} {vs : List Value} {Q : List Value → Shared → Prop} (hl : s.heap.IsTuple l vs.toArray)
    (h : Q vs { s with heap := (s.heap.push (seqObj "list" #[] 0)).update s.heap.objs.size (Obj.mapSeq (· ++ vs.toArray)) }) (hsz : vs.length ≤ sizeLine) :
    wpAny (model prog w) A (collect (.ref l)) Q E s := by
  obtain ⟨o, ho, hc, n, hd⟩ := id hl
  unfold collect
  refine wpAny_bind (wpAny_runValue (codeAny_builtin entry_proto_collect' ?_))
  show wpAny _ _ (do again (.builtin "list.__iadd__" ⟨[← newList [], .ref l], []⟩)) _ _ s
  refine wpAny_bind (wpAny_newList (wpAny_pure ⟨Code.quiet_builtin _ (by decide +kernel), codeAny_builtin entry_list_iadd' ?_⟩))
  show wpAny _ _ (Builtin.List.listExtendWith (.ref s.heap.objs.size) (.ref l) (.ref s.heap.objs.size)) _ _ { s with heap := s.heap.push (seqObj "list" #[] 0) }
  unfold Builtin.List.listExtendWith
  have ho' : (s.heap.push (seqObj "list" #[] 0)).get? l = some o := Heap.get?_push_of_some _ ho
  refine wpAny_bind (wpAny_typeOf (T := "tuple") ⟨o, ho', hc⟩ ?_)
  have ht : (Value.type "tuple" == Value.type "tuple") = true := by rfl
  rw [if_pos (by rw [ht]; simp)]
  refine wpAny_bind (listItems_at ho' hd ?_)
  refine wpAny_bind (listItems_at (xs := #[]) (n := 0) (Heap.get?_push_size _ rfl) rfl ?_)
  rw [if_neg (by simp)]
  refine wpAny_bind (listUpdate_at (xs := #[]) (n := 0) (Heap.get?_push_size _ rfl) rfl ?_ (Nat.zero_le _) (by show (#[] ++ vs.toArray).size ≤ sizeLine + 1; simp only [Array.size_append, List.size_toArray, List.length_nil]; exact Mine.q72 hsz))
  refine wpAny_pure ?_
  show wpAny (model prog w) A (do
      let o ← load s.heap.objs.size
      match o.data with
      | .seq xs _ => pure xs.toList
      | _ => unsupported "internal:collect") Q E { s with heap := (s.heap.push (seqObj "list" #[] 0)).update s.heap.objs.size (Obj.mapSeq (· ++ vs.toArray)) }
  refine wpAny_bind (wpAny_load (get?_update_seq (Heap.get?_push_size _ rfl) _) ?_)
  show wpAny _ _ (pure ((#[] : Array Value) ++ vs.toArray).toList) Q E _
  rw [show ((#[] : Array Value) ++ vs.toArray).toList = vs by simp]
  exact wpAny_pure h
/-- sorted of a tuple, by the rule of its sort -/
theorem sortedT {l : Addr} {vs : List Value} {Ok : Array Value → Prop} {Q : Value → Shared → Prop} (hl : s.heap.IsTuple l vs.toArray) (h64 : vs.length < 64)
    (srt : ∀ (A' : Around) (E' : Value → Shared → Prop) (s1 : Shared) (a : Addr) (P : PySem.Fin → Shared → Prop), s1.heap.get? a = some (seqObj "list" vs.toArray 0) → (∀ out, Ok out → P (.done (.ret .none)) { s1 with heap := sortedHeap s1.heap a vs out }) → wpAny (model prog w) A' (Builtin.«list.sort» ⟨[.ref a], []⟩) P E' s1)
    (h : ∀ h' D e (out : Array Value), Ok out → Kp s.heap h' → s.heap.objs.size ≤ D → h'.get? D = some (W.listOf out e) → Q (.ref D) { s with heap := h' }) :
    wpAny (model prog w) A (call (.builtin "sorted") [.ref l]) Q E s := by
  refine Calls.call_function_entry kind_sorted plain_sorted entry_sorted (args_sorted1 _) ?_
  unfold Builtin.«sorted»
  refine wpAny_bind (m := checkCount "sorted" 1 1 _) (wpAny_pure ?_)
  refine wpAny_bind (collect_tup hl ?_ (by rw [sizeLine_eq]; exact Mine.q73 h64))
  refine wpAny_bind (wpAny_newList ?_ (by rw [sizeLine_eq]; exact Mine.q73 h64))
  have hsz : ((s.heap.push (seqObj "list" #[] 0)).update s.heap.objs.size (Obj.mapSeq (· ++ vs.toArray))).objs.size = s.heap.objs.size + 1 := by
    rw [Heap.size_update, size_push']
  have hoL : (((s.heap.push (seqObj "list" #[] 0)).update s.heap.objs.size (Obj.mapSeq (· ++ vs.toArray))).push (seqObj "list" vs.toArray 0)).get? (s.heap.objs.size + 1) = some (seqObj "list" vs.toArray 0) := by
    rw [← hsz]; exact Heap.get?_push_size _ rfl
  show wpAny _ _ _ _ _ { s with heap := ((s.heap.push (seqObj "list" #[] 0)).update s.heap.objs.size (Obj.mapSeq (· ++ vs.toArray))).push (seqObj "list" vs.toArray 0) }
  rw [hsz]
  refine wpAny_bind (wpAny_holding (wpAny_call_entry slot_list_sort ⟨_, hoL, rfl⟩ entry_list_sort (srt _ _ _ _ _ hoL fun out ok => ⟨_, rfl, ?_⟩) (args_list_sort _)))
  obtain ⟨e, he⟩ := sortedAll_at s.heap vs out
  exact wpAny_pure ⟨_, rfl, h (sortedAll s.heap vs out) _ e out ok (fun b o q => sortedAll_old q) (Nat.le_succ _) he⟩
theorem sortedT_ints {l : Addr} {vs : List Value} {ns : List Int} {Q : Value → Shared → Prop} (hl : s.heap.IsTuple l vs.toArray) (hI : IntsAre vs ns) (h64 : vs.length < 64)
    (h : ∀ h' D e (out : Array Value) ns', IntsAre out.toList ns' → ns'.Perm ns → ns'.Pairwise (· ≤ ·) → Kp s.heap h' → s.heap.objs.size ≤ D → h'.get? D = some (W.listOf out e) → Q (.ref D) { s with heap := h' }) :
    wpAny (model prog w) A (call (.builtin "sorted") [.ref l]) Q E s :=
  sortedT (Ok := fun out => ∃ ns', IntsAre out.toList ns' ∧ ns'.Perm ns ∧ ns'.Pairwise (· ≤ ·)) hl h64 (fun A' E' s1 a P ho hP => list_sort_tree ho hI h64 fun out ns' a1 a2 a3 => hP out ⟨ns', a1, a2, a3⟩)
    fun h' D e out ⟨ns', a1, a2, a3⟩ k z g => h h' D e out ns' a1 a2 a3 k z g
theorem sortedT_strs {l : Addr} {vs : List Value} {ss : List Str} {Q : Value → Shared → Prop} (hl : s.heap.IsTuple l vs.toArray) (hS : StrsAre vs ss) (h64 : vs.length < 64)
    (h : ∀ h' D e (out : Array Value) ss', StrsAre out.toList ss' → ss'.Perm ss → sortedS ss' = true → Kp s.heap h' → s.heap.objs.size ≤ D → h'.get? D = some (W.listOf out e) → Q (.ref D) { s with heap := h' }) :
    wpAny (model prog w) A (call (.builtin "sorted") [.ref l]) Q E s :=
  sortedT (Ok := fun out => ∃ ss', StrsAre out.toList ss' ∧ ss'.Perm ss ∧ sortedS ss' = true) hl h64 (fun A' E' s1 a P ho hP => list_sort_treeK strKind_oneLt ho hS.keysOf (fun v₁ v₂ rest e => keyKind_strs (by rw [← e]; exact hS)) h64 fun st' a1 a2 => by
      obtain ⟨ss', h1, h2, h3⟩ := sorted_out_str hS a1 a2
      exact hP _ ⟨ss', h1, h2, h3⟩)
    fun h' D e out ⟨ss', a1, a2, a3⟩ k z g => h h' D e out ss' a1 a2 a3 k z g
end
end Mine
end
section
open PySem PySem.W PyProof.Rows PySem.Calls PySem.Spec
set_option Elab.async false
set_option maxRecDepth 100000
set_option maxHeartbeats 4000000
namespace Mine
theorem fillKM : (PySem.Challenge.rw_oc0253_01, Mine.hd.heap_1) = (PySem.Challenge.rw_oc0253_01, Mine.hd.heap_1) := by k_fill; rfl
/-- a new list, given by a rule -/
theorem led_new {h₀ h h' : Heap} {L D : Addr} {m : Str → Option Value} {news : List (Addr × Obj)} {o : Obj} (F : Fr h₀ L h m) (N : News h₀ L h news) (k : Kp h h') (hD : h.objs.size ≤ D) (g : h'.get? D = some o) : Fr h₀ L h' m ∧ News h₀ L h' ((D, o) :: news) := by
  refine ⟨F.keeps k, fun p hp => ?_⟩
  rcases List.mem_cons.mp hp with e | hp
  · rw [e]
    exact ⟨g, Nat.ne_of_gt (Nat.lt_of_lt_of_le F.ns.lt hD), Heap.get?_none_of_le (Nat.le_trans F.above (Nat.le_trans (Nat.le_of_lt F.ns.lt) hD))⟩
  · exact ⟨k _ _ (N p hp).1, (N p hp).2⟩
theorem item_at {prog : Program} {w : World} {A : Around} {E : Value → Shared → Prop} {s : Shared} {value slice : PySem.Expr} {l : Addr} {items : Array Value} {k : Int} {u : Tok} {x : Value} {Q : Value → Shared → Prop} (hl : s.heap.IsList l items) (n : Nat) (hk : k = n) (hz : items.size ≤ 1000) (hx : items.toList[n]? = some x) (h : Q x s)
    (hs : subscripted slice false (.ref l) (.int k u) = operate [.ref l, .int k u] (getItem (.ref l) (.int k u)) := by with_unfolding_all rfl) : wpAny (model prog w) A (subscriptTail value slice (.ref l) (.int k u)) Q E s := by
  have hn : n < items.size := by
    have := (List.getElem?_eq_some_iff.mp hx).1
    rwa [Array.length_toList] at this
  subst hk
  exact tail_any hl.typeIs slot_list_getitem.lookup (wpAny_getItem_list hl (by exact Mine.q74) (by omega) (by rw [Int.toNat_natCast, ← Array.getElem?_toList]; exact hx) h) hs
theorem strs_get {vs : List Value} {ss : List Str} (hS : StrsAre vs ss) : ∀ {i : Nat} {c : Str}, ss[i]? = some c → ∃ t, vs[i]? = some (.str c t) := by
  induction hS with
  | nil => intro i c h; cases h
  | cons y t _ ih =>
    intro i c h
    cases i with
    | zero => cases h; exact ⟨t, rfl⟩
    | succ i => exact ih h
theorem fdiv2 (n : Nat) : ((n : Int).fdiv 2) = ((n / 2 : Nat) : Int) := by rw [Int.fdiv_eq_ediv_of_nonneg _ (by decide)]; exact Mine.q75
theorem fmod2 (n : Nat) : ((n : Int).fmod 2) = ((n % 2 : Nat) : Int) := by rw [Int.fmod_eq_emod_of_nonneg _ (by decide)]; exact Mine.q76
theorem medHigh {prog : Program} {w : World} {n₀ : Nat} {A : Around} {s : Shared} {Q E : Value → Shared → Prop} (G : Gd w n₀ s.heap) (r : Rm A 3 10) (hs : n₀ ≤ s.heap.objs.size) {T : Addr} {vs : List Value} {ss : List Str} (hT : s.heap.get? T = some (tupOf vs)) (bT : n₀ ≤ T) (hS : StrsAre vs ss) (h1 : 0 < ss.length) (h64 : ss.length < 64)
    (ret : ∀ h' tk ss' c t, ss'.Perm ss → sortedS ss' = true → ss'[ss.length / 2]? = some c → Kp s.heap h' → Q (.str c t) { s with heap := h', toks := tk }) :
    wpAny (model prog w) A (call (.ref 48) [.ref T]) Q E s := by
  w_on
  refine wpAny_call ?_
  refine' startQ (K := Mine.hd.heap_1 w.params) [(T, tupOf vs)] [(Str.ofString "data", .ref T)] (d := 2) (u := 7) r (fun _ q => q) G hs ⟨⟨hT, bT⟩, trivial⟩ ?k4 ?k5 ?k7 ?k8 ?_ ?c2 ?c3 ?c4 ?c5
  (case k4 => k_is)
  (case k5 => k_is)
  (case k7 => exact BindsTo.of_eq rfl)
  (case k8 => exact locs rfl)
  (case c2 => exact rfl)
  (case c3 => exact rfl)
  (case c4 => exact rfl)
  (case c5 => decide)
  intro A' PQ PE rA hQ1 hQ2 h₁ h₀ L tail mean mg mb tk0 B F N X TT
  simp only [List.cons_append, List.nil_append] at N
  have TR := topRead_of TT
  have hlv : vs.length = ss.length := hS.length
  w_strict (
  k_steps
  refine sortedT_strs ⟨_, N.get (.head _), rfl, _, rfl⟩ hS (by exact Mine.q77 h64 hlv) ?_
  intro h2 D e out ss' a1 a2 a3 kp2 zD gD
  dsimp only at zD
  obtain ⟨F2, N2⟩ := led_new F N kp2 zD gD
  have hlo : out.size = ss.length := by
    have q1 := a1.length
    rw [Array.length_toList] at q1
    rw [q1, a2.length_eq]
  clear F N
  k_steps
  · rename_i hz
    exact absurd hz (by exact Mine.q78 h1)
  · (rename Fr _ _ _ _ => F3); (rename News _ _ _ _ => N3)
    obtain ⟨c, hc⟩ : ∃ c, ss'[ss.length / 2]? = some c := ⟨_, List.getElem?_eq_getElem (by rw [a2.length_eq]; exact Mine.q79 h1)⟩
    obtain ⟨t, ht⟩ := strs_get a1 hc
    refine item_at (IsL.isList (N3.get (.head _))) (ss.length / 2) (fdiv2 _) (by exact Mine.q80 h64 hlo) ht ?_
    exact hQ1 _ _ (ret _ _ ss' c t a2 a3 hc ((B.fin _ _ _ F3 N3 fun q hq => tl (tl hq)).less (List.forall_mem_singleton.mpr (.inr ⟨_, hT, N3.get (by k_mem)⟩))).kp))
theorem medLow {prog : Program} {w : World} {n₀ : Nat} {A : Around} {s : Shared} {Q E : Value → Shared → Prop} (G : Gd w n₀ s.heap) (r : Rm A 3 10) (hs : n₀ ≤ s.heap.objs.size) {T : Addr} {vs : List Value} {ss : List Str} (hT : s.heap.get? T = some (tupOf vs)) (bT : n₀ ≤ T) (hS : StrsAre vs ss) (h1 : 0 < ss.length) (h64 : ss.length < 64)
    (ret : ∀ h' tk ss' c t, ss'.Perm ss → sortedS ss' = true → ss'[(ss.length - 1) / 2]? = some c → Kp s.heap h' → Q (.str c t) { s with heap := h', toks := tk }) :
    wpAny (model prog w) A (call (.ref 41) [.ref T]) Q E s := by
  w_on
  refine wpAny_call ?_
  refine' startQ (K := Mine.hd.heap_1 w.params) [(T, tupOf vs)] [(Str.ofString "data", .ref T)] (d := 2) (u := 7) r (fun _ q => q) G hs ⟨⟨hT, bT⟩, trivial⟩ ?k4 ?k5 ?k7 ?k8 ?_ ?c2 ?c3 ?c4 ?c5
  (case k4 => k_is)
  (case k5 => k_is)
  (case k7 => exact BindsTo.of_eq rfl)
  (case k8 => exact locs rfl)
  (case c2 => exact rfl)
  (case c3 => exact rfl)
  (case c4 => exact rfl)
  (case c5 => decide)
  intro A' PQ PE rA hQ1 hQ2 h₁ h₀ L tail mean mg mb tk0 B F N X TT
  simp only [List.cons_append, List.nil_append] at N
  have TR := topRead_of TT
  have hlv : vs.length = ss.length := hS.length
  w_strict (
  k_steps
  refine sortedT_strs ⟨_, N.get (.head _), rfl, _, rfl⟩ hS (by exact Mine.q77 h64 hlv) ?_
  intro h2 D e out ss' a1 a2 a3 kp2 zD gD
  dsimp only at zD
  obtain ⟨F2, N2⟩ := led_new F N kp2 zD gD
  have hlo : out.size = ss.length := by
    have q1 := a1.length
    rw [Array.length_toList] at q1
    rw [q1, a2.length_eq]
  clear F N
  have hf2 := fdiv2 ss.length
  have hf1 := fmod2 ss.length
  obtain ⟨c, hc⟩ : ∃ c, ss'[(ss.length - 1) / 2]? = some c := ⟨_, List.getElem?_eq_getElem (by rw [a2.length_eq]; exact Mine.q81 h1)⟩
  obtain ⟨t, ht⟩ := strs_get a1 hc
  k_steps
  · rename_i hz
    exact absurd hz (by exact Mine.q78 h1)
  · (rename Fr _ _ _ _ => F3); (rename News _ _ _ _ => N3)
    rename_i hz
    rw [hf1] at hz
    refine item_at (IsL.isList (N3.get (.head _))) ((ss.length - 1) / 2) (by rw [hf2]; exact Mine.q82 hz) (by exact Mine.q80 h64 hlo) ht ?_
    exact hQ1 _ _ (ret _ _ ss' c t a2 a3 hc ((B.fin _ _ _ F3 N3 fun q hq => tl (tl hq)).less (List.forall_mem_singleton.mpr (.inr ⟨_, hT, N3.get (by k_mem)⟩))).kp)
  · (rename Fr _ _ _ _ => F3); (rename News _ _ _ _ => N3)
    rename_i hz
    rw [hf1] at hz
    refine item_at (IsL.isList (N3.get (.head _))) ((ss.length - 1) / 2) (by rw [hf2]; exact Mine.q83 h1 hz) (by exact Mine.q80 h64 hlo) ht ?_
    exact hQ1 _ _ (ret _ _ ss' c t a2 a3 hc ((B.fin _ _ _ F3 N3 fun q hq => tl (tl hq)).less (List.forall_mem_singleton.mpr (.inr ⟨_, hT, N3.get (by k_mem)⟩))).kp))
end Mine
end
section
open PySem PySem.W PyProof.Rows PySem.Calls PySem.Spec
set_option Elab.async false
set_option maxRecDepth 100000
set_option maxHeartbeats 4000000
namespace Mine
section
variable {prog : Program} {w : World} {A : Around} {E : Value → Shared → Prop} {s : Shared}
theorem meets_enum_tup (l : Addr) (items : Array Value) (n : Nat) (dct : Option Addr) (sl : Array (Option Value)) :
    Meets (Builtin.«enumerate.__new__» ⟨[.type "enumerate", .ref l], []⟩) (fun _ R s => s.heap.get? l = some { cls := .type "tuple", dict := dct, data := .seq items n, slots := sl } ∧
      R (.ok (.ret (.ref (s.heap.push { cls := .type "tuple_iterator", data := .fields #[.ref l, .int 0 0] }).objs.size)))
        { s with heap := (s.heap.push { cls := .type "tuple_iterator", data := .fields #[.ref l, .int 0 0] }).push { cls := .type "enumerate", data := .fields #[.none, .bool false, .ref s.heap.objs.size, rawInt 0, .none, .none] } }) :=
  .of_wp fun prog w A R s h => by
    obtain ⟨hp, g, d, tk, os⟩ := s; obtain ⟨hl, h⟩ := h
    have hsub := sub_enumerate
    have hL : Heap.IsTuple (Shared.heap ⟨hp, g, d, tk, os⟩) l items := ⟨_, hl, rfl, n, rfl⟩
    wp_walk using PySem.AutoSeq1.wpAny_loadPart' hl
    refine wpAny_stack_any fun st => wpAny_pure ?_
    split
    · rename_i c _ _ _ _ _
      cases (c == Value.type "enumerate")
      · wp_walk using PySem.AutoSeq1.wpAny_loadPart' hl, wpAny_pyIter_tuple hL
        exact ⟨_, rfl, h⟩
      · wp_walk using PySem.AutoSeq1.wpAny_loadPart' hl, wpAny_pyIter_tuple hL
        exact ⟨_, rfl, h⟩
    · wp_walk using PySem.AutoSeq1.wpAny_loadPart' hl, wpAny_pyIter_tuple hL
      exact ⟨_, rfl, h⟩
theorem call_enum_tup {l : Addr} {items : Array Value} {Q : Value → Shared → Prop} (hL : s.heap.IsTuple l items)
    (h : ∀ h', IsEnum h' (s.heap.objs.size + 1) s.heap.objs.size 0 .none → h'.IsTupleIter s.heap.objs.size l 0 → h'.objs.size = s.heap.objs.size + 2 →
      (∀ b o, s.heap.get? b = some o → h'.get? b = some o) → Q (.ref (s.heap.objs.size + 1)) { s with heap := h' }) :
    wpAny (model prog w) A (call (.type "enumerate") [.ref l]) Q E s := by
  obtain ⟨⟨c, dct, dt, sl⟩, hl, hc, n, hd⟩ := hL
  replace hc : c = .type "tuple" := hc
  replace hd : dt = .seq items n := hd
  subst hc hd
  refine callType_new F.called_enumerate (by decide) (F.typeCall_enumerate_1 _) (F.newCall_enumerate_1 _) (fun obj => F.args_object_init_2 obj _) F.entry_enumerate_new
    (meets_enum_tup l items n dct sl) ⟨hl, ?_⟩
  have hz : (s.heap.push { cls := .type "tuple_iterator", data := .fields #[.ref l, .int 0 0] }).objs.size = s.heap.objs.size + 1 := Heap.size_push ..
  show _ ∧ _
  rw [hz]
  have he : IsEnum ((s.heap.push { cls := .type "tuple_iterator", data := .fields #[.ref l, .int 0 0] }).push
      { cls := .type "enumerate", data := .fields #[.none, .bool false, .ref s.heap.objs.size, rawInt 0, .none, .none] }) (s.heap.objs.size + 1) s.heap.objs.size 0 .none := by
    have := Heap.get?_push_size (s.heap.push { cls := .type "tuple_iterator", data := .fields #[.ref l, .int 0 0] })
      (o := { cls := .type "enumerate", data := .fields #[.none, .bool false, .ref s.heap.objs.size, rawInt 0, .none, .none] }) rfl
    rw [hz] at this; exact this
  refine ⟨⟨_, he, rfl⟩, h _ he ⟨_, Heap.get?_push_of_some _ (Heap.get?_push_size _ rfl), rfl, rfl⟩ (by rw [Heap.size_push, hz]) fun b o x => Heap.get?_push_of_some _ (Heap.get?_push_of_some _ x)⟩
theorem nextOf_tup_item {it t : Addr} {i : Nat} {items : Array Value} {x : Value} {Q : Value → Shared → Prop} (hit : s.heap.IsTupleIter it t i) (ht : s.heap.IsTuple t items) (hx : items[i]? = some x)
    (hQ : ∀ h', h'.IsTupleIter it t (i + 1) → Heap.SameBut it s.heap h' → Q x { s with heap := h' }) : wpAny (model prog w) A (Builtin.SmallTypes.nextOf (.ref it)) Q E s := by
  obtain ⟨o, ho, hc, hd⟩ := id hit
  obtain ⟨ol, hol, _, nl, hdl⟩ := ht
  unfold Builtin.SmallTypes.nextOf
  refine wpAny_bind (wpAny_callSpecial?_slot (name := Str.ofString "__next__") hit.typeIs F.slot_tuple_iterator_next
    (wpAny_call_entry F.slot_tuple_iterator_next hit.typeIs F.entry_tuple_iterator_next ?_ (F.args_tuple_iterator_next_1 _)))
  show wpAny _ _ (field (.ref it) 0 >>= _) _ _ s
  refine wpAny_bind (wpAny_field ho hd (x := .ref t) rfl ?_)
  show wpAny _ _ (if (Value.ref t == Value.none) = true then _ else _) _ _ s
  rw [if_neg (show ¬ ((Value.ref t == Value.none) = true) from Bool.false_ne_true)]
  show wpAny _ _ (field (.ref it) 1 >>= _) _ _ s
  refine wpAny_bind (wpAny_field ho hd (x := .int i 0) rfl ?_)
  show wpAny _ _ (seqItems? (.ref t) >>= _) _ _ s
  refine wpAny_bind (wpAny_seqItems hol hdl ?_)
  simp only [Int.toNat_natCast, hx]
  refine wpAny_bind (wpAny_setField ho hd (by simp) (wpAny_pure ⟨x, rfl, wpAny_pure (hQ _ ?_ (Heap.SameBut.update ..))⟩))
  exact ⟨_, Heap.get?_update_self _ ho (Obj.isFreed_of_fields (Obj.data_mapFields hd _)), (Obj.cls_mapFields ..).trans hc, by
    rw [Obj.data_mapFields hd]; simp [rawInt]⟩
theorem nextOf_tup_end {it t : Addr} {i : Nat} {items : Array Value} {Q : Value → Shared → Prop} (hh : A.handled = none) (hit : s.heap.IsTupleIter it t i) (ht : s.heap.IsTuple t items) (hx : items[i]? = none)
    (hE : ∀ h' e, Heap.ExtBut it s.heap h' → (∃ o, h'.get? e = some o ∧ o.cls = .type "StopIteration") → E (.ref e) { s with heap := h' }) : wpAny (model prog w) A (Builtin.SmallTypes.nextOf (.ref it)) Q E s := by
  obtain ⟨o, ho, hc, hd⟩ := id hit
  obtain ⟨ol, hol, _, nl, hdl⟩ := ht
  unfold Builtin.SmallTypes.nextOf
  refine wpAny_bind (wpAny_callSpecial?_slot (name := Str.ofString "__next__") hit.typeIs F.slot_tuple_iterator_next
    (wpAny_call_entry F.slot_tuple_iterator_next hit.typeIs F.entry_tuple_iterator_next ?_ (F.args_tuple_iterator_next_1 _)))
  show wpAny _ _ (field (.ref it) 0 >>= _) _ _ s
  refine wpAny_bind (wpAny_field ho hd (x := .ref t) rfl ?_)
  show wpAny _ _ (if (Value.ref t == Value.none) = true then _ else _) _ _ s
  rw [if_neg (show ¬ ((Value.ref t == Value.none) = true) from Bool.false_ne_true)]
  show wpAny _ _ (field (.ref it) 1 >>= _) _ _ s
  refine wpAny_bind (wpAny_field ho hd (x := .int i 0) rfl ?_)
  show wpAny _ _ (seqItems? (.ref t) >>= _) _ _ s
  refine wpAny_bind (wpAny_seqItems hol hdl ?_)
  simp only [Int.toNat_natCast, hx]
  refine wpAny_bind (wpAny_rule (wpAny_bind (wpAny_setField ho hd (by simp) ?_)))
  show wpAny _ _ (newExc (.type "StopIteration") [] >>= _) _ _ _
  refine wpAny_bind ?_
  simp only [newExc, newTuple]
  refine wpAny_bind (wpAny_newObj_type ?_ (by size_fits))
  refine wpAny_bind (m := firstArgMember _ _) (wpAny_of_eq (a := Value.none) (by first | rfl | (simp only [firstArgMember]; rfl)) ?_)
  refine wpAny_newObj_type ?_ (by size_fits)
  simp only [raiseNew]
  refine wpAny_bind (wpAny_handled ?_)
  first | rw [show A.in1.handled = none from hh] | rw [hh]
  refine wpAny_bind (wpAny_pure (wpAny_throw ?_))
  exact hE _ _ (((Heap.SameBut.update ..).extBut.push _).push _) ⟨_, Heap.get?_push_size _ rfl, rfl⟩
end
theorem drawsTup {prog : Program} {w : World} {A : Around} (hh : A.handled = none) (it l : Addr) (hne : l ≠ it) (items : Array Value) :
    Draws prog w A it [it, l] items.size (fun i v => items[i]? = some v) (fun i h => h.IsTupleIter it l i ∧ h.IsTuple l items) where
  live := fun _ _ st => let ⟨o, ho, _⟩ := st.1; ⟨o, ho⟩
  frame := fun _ _ _ st hk => ⟨st.1.at fun o e => hk it (by simp) o e, st.2.at fun o e => hk l (by simp) o e⟩
  item := fun i s Q E hi st hQ => by
    refine nextOf_tup_item st.1 st.2 (x := items[i]) (by simp [hi]) fun h' hit' hs' => ?_
    exact hQ _ h' s.toks (by simp [hi]) ⟨hit', st.2.extBut hs'.extBut hne⟩ hs'
  done := fun s Q E st hE => nextOf_tup_end hh st.1 st.2 (by simp) hE
/-- an iterator that gives pairs -/
structure WP (prog : Program) (w : World) (A : Around) (I : Addr) (fp wr : List Addr) (n : Nat) (Pt : Nat → Array Value → Prop) (St : Nat → Heap → Prop) (Mid : Nat → Addr → Heap → Prop) : Prop where
  sub : ∀ b ∈ wr, b ∈ fp
  frame : ∀ i h h', St i h → (∀ b ∈ fp, ∀ o, h.get? b = some o → h'.get? b = some o) → St i h'
  item : ∀ i (s : Shared) (Q : Option Value → Shared → Prop) (E : Value → Shared → Prop), i < n → St i s.heap →
    (∀ T vals h' tk, Pt i vals → h'.IsTuple T vals → Mid i T h' → (∀ b o, b ∉ wr → s.heap.get? b = some o → h'.get? b = some o) → Q (some (.ref T)) { s with heap := h', toks := tk }) →
    wpAny (model prog w) A (pyNext (.ref I)) Q E s
  go : ∀ (elts : List PySem.Expr) (k : Nat) (pos : Pos) i T (s : Shared) (Q : Unit → Shared → Prop) (E : Value → Shared → Prop), Mid i T s.heap →
    (∀ h', St (i + 1) h' → (∀ b o, b ∉ wr → s.heap.get? b = some o → h'.get? b = some o) → Q () { s with heap := h' }) →
    wpAny (model prog w) A (letOwnedTupleGo (.Tuple elts k pos) (.ref I) (.ref T)) Q E s
  apart : ∀ i T h, Mid i T h → T ∉ wr
  done : ∀ (s : Shared) (Q : Option Value → Shared → Prop) (E : Value → Shared → Prop), St n s.heap →
    (∀ h' tk, (∀ b o, b ∉ wr → s.heap.get? b = some o → h'.get? b = some o) → Q none { s with heap := h', toks := tk }) → wpAny (model prog w) A (pyNext (.ref I)) Q E s
  self : ∀ i (s : Shared) (Q : Value → Shared → Prop) (E : Value → Shared → Prop), St i s.heap → Q (.ref I) s → wpAny (model prog w) A (pyIter (.ref I)) Q E s
theorem WP.of {prog : Program} {w : World} {A : Around} {I : Addr} {fp wr : List Addr} {n : Nat} {Pt : Nat → Array Value → Prop} {St : Nat → Heap → Prop} {Mid : Nat → Addr → Heap → Prop} (Wk : WalksT prog w A I fp wr n Pt St Mid) : WP prog w A I fp wr n Pt St Mid :=
  ⟨Wk.sub, Wk.frame, fun i s Q E hi st hQ => Wk.item i s Q E hi st fun T vals h' tk a _ b c d => hQ T vals h' tk a b c d, Wk.go, Wk.apart, Wk.done, Wk.self⟩
section
variable {prog : Program} {w : World} {A : Around} {E : Value → Shared → Prop} {s : Shared} {env : Env}
/-- two names from a pair -/
theorem asgT {a b : Str} {pa pb pt : Pos} {x1 : Nat} {T C : Addr} {v0 v1 : Value} {m : Str → Option Value} {Q : Unit → Shared → Prop} (hh : A.handled = none) (hC : env.locals = C) (ha : env.kindOf a = some .local) (hb : env.kindOf b = some .local)
    (hp : (env.scope.kind == .class || (env.scope.kind == .module && env.locals != env.globals)) = false) (ht : s.heap.IsTuple T #[v0, v1]) (hn : s.heap.Ns C m)
    (h : ∀ h' tk, h'.Ns C (fun y => if y = b then some v1 else if y = a then some v0 else m y) → KpB [C] s.heap h' → Q () { s with heap := h', toks := tk }) :
    wpAny (model prog w) A (assign (.Tuple [.Name a pa, .Name b pb] x1 pt) env (.ref T)) Q E s := by
  subst hC
  refine wpAny_assign_Tuple hh ht rfl rfl fun h₃ hx₃ => ?_
  have up₃ : ∀ c o, s.heap.get? c = some o → h₃.get? c = some o := fun c o x => hx₃ c o (Nat.ne_of_lt (Heap.lt_size x)) x
  have n₃ := hn.at' fun o e => up₃ _ o e
  show wpAny _ A (do holding [v1] (assign (.Name a pa) env v0); do holding [] (assign (.Name b pb) env v1); pure ()) _ _ _
  refine wpAny_bind (wpAny_holding (wpAny_assign_Name (wpAny_storeName_local ha n₃ (fun h₄ hn₄ hs₄ => ?_) hp)))
  refine wpAny_bind (wpAny_holding (wpAny_assign_Name (wpAny_storeName_local hb hn₄ (fun h₅ hn₅ hs₅ => wpAny_pure ?_) hp)))
  exact h _ _ hn₅ fun c o hc e => hs₅.extBut c o (fun z => hc (z ▸ .head _)) (hs₄.extBut c o (fun z => hc (z ▸ .head _)) (up₃ c o e))
/-- a for over pairs -/
theorem forT {R : Result → Shared → Prop} {xi xc : Str} {pk pv pt : Pos} {x1 : Nat} {body orelse : List Stmt} {I : Addr} {fp wr : List Addr} {n : Nat} {Pt : Nat → Array Value → Prop} {St : Nat → Heap → Prop} {Mid : Nat → Addr → Heap → Prop}
    {P2 : Nat → Value → Value → Prop} {m : Str → Option Value} {s₂ : Shared} (hh : A.handled = none) (J : Nat → (Str → Option Value) → Heap → Prop) (Wk : WP prog w A I fp wr n Pt St Mid) (h2 : ∀ i vals, Pt i vals → ∃ v0 v1, vals = #[v0, v1] ∧ P2 i v0 v1)
    (hxi : env.kindOf xi = some .local) (hxc : env.kindOf xc = some .local) (hp : (env.scope.kind == .class || (env.scope.kind == .module && env.locals != env.globals)) = false)
    (hL : env.locals ∉ fp) (st : St 0 s₂.heap) (hn : s₂.heap.Ns env.locals m) (j : J 0 m s₂.heap)
    (turn : ∀ (PT : Flow → Shared → Prop) (PE : Value → Shared → Prop) i v0 v1 m h h₂ tk, (∀ f s₃, Turned s₂ env.locals St J i f s₃ → PT f s₃) → (∀ v s₃, R (.ok (.ret v)) s₃ → PT (.ret v) s₃) → (∀ s₃, R (.ok .next) s₃ → PT .brk s₃) → i < n → P2 i v0 v1 → J i m h → KpB (env.locals :: wr) h h₂ →
      h₂.Ns env.locals (fun y => if y = xc then some v1 else if y = xi then some v0 else m y) → St (i + 1) h₂ → wpAny (model prog w) A (execs body env) PT PE { s₂ with heap := h₂, toks := tk })
    (done : ∀ (PE : Value → Shared → Prop) m h h' tk, J n m h → KpB wr h h' → h'.Ns env.locals m → wpAny (model prog w) A (execs orelse env) (fun f s₃ => R (.ok f) s₃) PE { s₂ with heap := h', toks := tk }) :
    codeAny (model prog w) A (.forLoop (.Tuple [.Name xi pk, .Name xc pv] x1 pt) (.ref I) body orelse env) R s₂ := by
  have hLw : env.locals ∉ wr := fun h => hL (Wk.sub _ h)
  refine codeAny_forLoop_any (fun k s' => ∃ i h tk m, s' = { s₂ with heap := h, toks := tk } ∧ k = n - i ∧ i ≤ n ∧ St i h ∧ h.Ns env.locals m ∧ J i m h) ?_ n ⟨0, s₂.heap, s₂.toks, m, rfl, rfl, Nat.zero_le _, st, hn, j⟩
  rintro k s' ⟨i, h, tk, m, rfl, rfl, hi, sti, hni, ji⟩
  by_cases hlt : i < n
  · refine Wk.item i _ _ _ hlt sti fun T vals h₁ tk₁ hPt hT hMid hk₁ => ?_
    obtain ⟨v0, v1, rfl, hP2⟩ := h2 i vals hPt
    refine Wk.go _ x1 pt i T _ _ _ hMid fun h₂ hst₂ hk₂ => ?_
    have ht₂ : h₂.IsTuple T #[v0, v1] := hT.at fun o e => hk₂ T o (Wk.apart i T h₁ hMid) e
    refine asgT hh rfl hxi hxc hp ht₂ (hni.at' fun o e => hk₂ _ o hLw (hk₁ _ o hLw e)) fun h₃ tk₃ hn₃ kb₃ => ?_
    refine turn _ _ i v0 v1 m h h₃ _ (fun f s₃ q => ?_) (fun _ _ q => q) (fun _ q => q) hlt hP2 ji (fun b o hb e => kb₃ b o (nin1 fun q => hb (q ▸ .head _)) (hk₂ b o (fun q => hb (.tail _ q)) (hk₁ b o (fun q => hb (.tail _ q)) e))) hn₃ (Wk.frame _ _ _ hst₂ fun b hb o e => kb₃ b o (nin1 fun q => hL (q ▸ hb)) e)
    obtain ⟨hf, h₅, tk₅, m₅, rfl, n5, st5, j5⟩ := q
    rcases hf with rfl | rfl <;> exact ⟨n - (i + 1), by exact Mine.q14 hlt, i + 1, h₅, tk₅, m₅, rfl, rfl, hlt, st5, n5, j5⟩
  · obtain rfl : i = n := Nat.le_antisymm hi (Nat.le_of_not_lt hlt)
    exact Wk.done _ _ _ sti fun h₁ tk₁ hk₁ => done _ m h h₁ tk₁ ji hk₁ (hni.at' fun o e => hk₁ _ o hLw e)
end
theorem goTup {prog : Program} {w : World} {A : Around} {E : Value → Shared → Prop} {s : Shared} {elts : List PySem.Expr} {k : Nat} {pos : Pos} {I t T : Addr} {i : Nat} {Q : Unit → Shared → Prop} (hit : s.heap.IsTupleIter I t i) (h : Q () s) : wpAny (model prog w) A (letOwnedTupleGo (.Tuple elts k pos) (.ref I) (.ref T)) Q E s := by
  obtain ⟨o, ho, hc, hd⟩ := hit
  unfold letOwnedTupleGo
  refine wpAny_bind (wpAny_load ho ?_)
  rw [hc, hd]
  dsimp only
  rw [show (["enumerate", "zip", "dict_itemiterator", "dict_reverseitemiterator", "odict_iterator", "itertools.zip_longest", "itertools.pairwise"].contains "tuple_iterator") = false by decide, Bool.false_and, if_neg Bool.false_ne_true]
  exact wpAny_pure h
/-- a tuple of pairs that stand -/
theorem walksPairs {prog : Program} {w : World} {A : Around} (hh : A.handled = none) (I ax : Addr) (hne : ax ≠ I) (items : Array Value) (ps : List (Addr × Value × Value)) (hps : items.toList = ps.map fun p => .ref p.1) (fp : List Addr) (hfp : ∀ p ∈ ps, p.1 ∈ fp) (hI : I ∉ fp) :
    WP prog w A I (I :: ax :: fp) [I] items.size (fun i vals => ∃ p, ps[i]? = some p ∧ vals = #[p.2.1, p.2.2]) (fun i h => (h.IsTupleIter I ax i ∧ h.IsTuple ax items) ∧ ∀ p ∈ ps, h.IsTuple p.1 #[p.2.1, p.2.2])
      (fun i T h => ((h.IsTupleIter I ax (i + 1) ∧ h.IsTuple ax items) ∧ ∀ p ∈ ps, h.IsTuple p.1 #[p.2.1, p.2.2]) ∧ T ≠ I) where
  sub := fun b hb => by rw [List.mem_singleton.mp hb]; exact .head _
  frame := fun _ _ _ st hk => ⟨⟨st.1.1.at fun o e => hk I (.head _) o e, st.1.2.at fun o e => hk ax (tl (.head _)) o e⟩, fun p hp => (st.2 p hp).at fun o e => hk p.1 (tl (tl (hfp p hp))) o e⟩
  item := fun i s Q E hi st hQ => by
    have hl : i < ps.length := by
      have := congrArg List.length hps
      rw [List.length_map, Array.length_toList] at this
      exact Mine.q84 hi this
    have hx : items[i]? = some (.ref ps[i].1) := by
      rw [← Array.getElem?_toList, hps, List.getElem?_map, List.getElem?_eq_getElem hl]; rfl
    have hm := List.getElem_mem hl
    have hne' : ps[i].1 ≠ I := fun q => hI (q ▸ hfp _ hm)
    refine wpAny_pyNext_tuple_item st.1.1 st.1.2 hx fun h' hit' hs' => ?_
    have k : ∀ p ∈ ps, h'.IsTuple p.1 #[p.2.1, p.2.2] := fun p hp => (st.2 p hp).extBut hs'.extBut fun q => hI (q ▸ hfp p hp)
    exact hQ ps[i].1 _ h' s.toks ⟨_, List.getElem?_eq_getElem hl, rfl⟩ (k _ hm) ⟨⟨⟨hit', st.1.2.extBut hs'.extBut hne⟩, k⟩, hne'⟩ fun b o hb e => hs'.extBut b o (fun h => hb (by simp [h])) e
  go := fun elts k pos i T s Q E hm hQ => goTup hm.1.1.1 (hQ s.heap hm.1 fun _ _ _ e => e)
  apart := fun i T h hm => nin1 hm.2
  done := fun s Q E st hQ => wpAny_pyNext_tuple_end hh st.1.1 st.1.2 (by simp) fun h' he' => hQ h' s.toks fun b o hb e => he' b o (fun h => hb (by simp [h])) e
  self := fun _ _ _ _ st hQ => wpAny_pyIter_tupleiter st.1.1 hQ
end Mine
end
section
open PySem PySem.W PyProof.Rows PySem.Calls PySem.Spec
set_option Elab.async false
set_option maxRecDepth 100000
set_option maxHeartbeats 4000000
namespace Mine
theorem fillKF : (PySem.Challenge.rw_oc0253_01, Mine.hd.heap_1) = (PySem.Challenge.rw_oc0253_01, Mine.hd.heap_1) := by k_fill; rfl
/-- the table as it lies -/
noncomputable def fmTabs : List (Addr × List (Addr × (Int × Nat) × (Str × Nat))) :=
  [(183, [(176, (40960, 431), ("l", 459)), (177, (49152, 433), ("s", 460)), (178, (32768, 427), ("-", 461)), (179, (24576, 425), ("b", 462)), (180, (16384, 421), ("d", 463)), (181, (8192, 423), ("c", 464)), (182, (4096, 429), ("p", 465))]),
   (185, [(184, (256, 441), ("r", 466))]), (187, [(186, (128, 443), ("w", 467))]), (191, [(188, (2112, 468), ("s", 469)), (189, (2048, 435), ("S", 470)), (190, (64, 445), ("x", 471))]),
   (193, [(192, (32, 447), ("r", 472))]), (195, [(194, (16, 449), ("w", 473))]), (199, [(196, (1032, 474), ("s", 475)), (197, (1024, 437), ("S", 476)), (198, (8, 451), ("x", 477))]),
   (201, [(200, (4, 453), ("r", 478))]), (203, [(202, (2, 455), ("w", 479))]), (207, [(204, (513, 480), ("t", 481)), (205, (512, 439), ("T", 482)), (206, (1, 457), ("x", 483))])]
noncomputable abbrev fmP (p : Addr × (Int × Nat) × (Str × Nat)) : Addr × Value × Value := (p.1, .int p.2.1.1 p.2.1.2, .str p.2.2.1 p.2.2.2)
noncomputable def fmObjs : List (Addr × Obj) := (208, tupOf (fmTabs.map fun t => .ref t.1)) :: fmTabs.flatMap fun t => (t.1, tupOf (t.2.map fun p => .ref p.1)) :: t.2.map fun p => (p.1, tupOf [(fmP p).2.1, (fmP p).2.2])
theorem fmLies (P : Params) : fmObjs.map (fun p => (Mine.hd.heap_1 P).lookup p.1) = fmObjs.map fun p => some p.2 := by kernel_rfl
theorem fmAt {P : Params} {h : Heap} (X : (Mine.hd.heap_1 P).In h) : ∀ p ∈ fmObjs, h.get? p.1 = some p.2 := fun p hp => X _ _ (by
  obtain ⟨i, hi, e⟩ := List.getElem_of_mem hp
  have := congrArg (·[i]?) (fmLies P)
  simp only [List.getElem?_map, List.getElem?_eq_getElem hi, Option.map_some, e] at this
  exact Option.some.inj this)
theorem fmAt0 {P : Params} {h : Heap} (X : (Mine.hd.heap_1 P).In h) : h.IsTuple 208 (fmTabs.map fun t => Value.ref t.1).toArray := ⟨_, fmAt X _ (.head _), rfl, _, rfl⟩
theorem fmAt1 {P : Params} {h : Heap} (X : (Mine.hd.heap_1 P).In h) {t : Addr × List (Addr × (Int × Nat) × (Str × Nat))} (ht : t ∈ fmTabs) : h.IsTuple t.1 (t.2.map fun p => Value.ref p.1).toArray :=
  ⟨_, fmAt X (t.1, tupOf (t.2.map fun p => .ref p.1)) (.tail _ (List.mem_flatMap.mpr ⟨t, ht, .head _⟩)), rfl, _, rfl⟩
theorem fmAt2 {P : Params} {h : Heap} (X : (Mine.hd.heap_1 P).In h) {t : Addr × List (Addr × (Int × Nat) × (Str × Nat))} (ht : t ∈ fmTabs) {p : Addr × (Int × Nat) × (Str × Nat)} (hp : p ∈ t.2) : h.IsTuple p.1 #[(fmP p).2.1, (fmP p).2.2] :=
  ⟨_, fmAt X (p.1, tupOf [(fmP p).2.1, (fmP p).2.2]) (.tail _ (List.mem_flatMap.mpr ⟨t, ht, .tail _ (List.mem_map.mpr ⟨p, hp, rfl⟩)⟩)), rfl, _, rfl⟩
theorem fmLo : ∀ p ∈ fmObjs, p.1 < 300 := by decide
noncomputable def fmTest (i : Nat) (md b : Int) : Bool := if i = 0 then decide (Builtin.bitAnd md 61440 = b) else decide (Builtin.bitAnd md b = b)
noncomputable def pickT (i : Nat) (md : Int) (t : List (Addr × (Int × Nat) × (Str × Nat))) : Str := match t.find? fun p => fmTest i md p.2.1.1 with
  | some p => p.2.2.1
  | none => if i = 0 then "?" else "-"
theorem find_at {α : Type} {f : α → Bool} : ∀ {l : List α} {j : Nat} {p : α}, (∀ k q, k < j → l[k]? = some q → f q = false) → l[j]? = some p → f p = true → l.find? f = some p
  | [], _, _, _, h, _ => by cases h
  | a :: l, 0, p, _, h, ht => by
    cases h
    rw [List.find?_cons_of_pos ht]
  | a :: l, j + 1, p, hk, h, ht => by
    rw [List.find?_cons_of_neg (by rw [hk 0 a (Nat.succ_pos j) rfl]; exact Bool.false_ne_true)]
    exact find_at (fun k q hlt hq => hk (k + 1) q (Nat.succ_lt_succ hlt) hq) h ht
theorem find_no {α : Type} {f : α → Bool} {l : List α} (h : ∀ k q, k < l.length → l[k]? = some q → f q = false) : l.find? f = none :=
  List.find?_eq_none.mpr fun q hq => by
    obtain ⟨k, hk, e⟩ := List.getElem_of_mem hq
    rw [h k q hk (by rw [List.getElem?_eq_getElem hk, e])]
    exact Bool.false_ne_true
noncomputable def fmS (md : Int) : List Str := fmTabs.mapIdx fun i t => pickT i md t.2
theorem fmS_snoc {md : Int} {i : Nat} {t : Addr × List (Addr × (Int × Nat) × (Str × Nat))} (ht : fmTabs[i]? = some t) : (fmS md).take (i + 1) = (fmS md).take i ++ [pickT i md t.2] := by
  have : (fmS md)[i]? = some (pickT i md t.2) := by
    unfold fmS
    rw [List.getElem?_mapIdx, ht]; rfl
  rw [List.take_add_one, this]; rfl
theorem StrsAre.append {vs ws : List Value} {ss ts : List Str} (h : StrsAre vs ss) (k : StrsAre ws ts) : StrsAre (vs ++ ws) (ss ++ ts) := by
  induction h with
  | nil => exact k
  | cons y t _ ih => exact .cons y t ih
theorem kp_new {W : List Addr} {h0 h h' : Heap} (x : Kp h0 h) (k : KpB W h h') (hW : ∀ a ∈ W, h0.get? a = none) : Kp h0 h' := fun b o e => k b o (fun q => by rw [hW b q] at e; cases e) (x b o e)
theorem neN' {a b : Nat} (h : a = b) : a = b := h
theorem pick1 (i : Nat) (md : Int) : ∀ t ∈ fmTabs, (pickT i md t.2).length ≤ 1 := fun t ht => by
  unfold pickT
  split
  · rename_i p hp
    have h1 : ∀ t ∈ fmTabs, ∀ p ∈ t.2, (p.2.2.1 : Str).length ≤ 1 := by decide
    exact h1 t ht p (List.mem_of_find?_eq_some hp)
  · split <;> decide
theorem fmS_small (md : Int) : ((fmS md).map (·.length)).sum + 10 * 64 ≤ 16777216 := by
  have key : ∀ l : List Str, (∀ x ∈ l, x.length ≤ 1) → (l.map (·.length)).sum ≤ l.length := fun l => by
    induction l with
    | nil => intro _; exact Nat.le_refl _
    | cons a r ih =>
      intro h
      have h1 := h a (.head _)
      have h2 := ih fun x hx => h x (.tail _ hx)
      rw [List.map_cons, List.sum_cons, List.length_cons]
      exact Mine.q85 h1 h2
  have := key (fmS md) fun x hx => by
    unfold fmS at hx
    obtain ⟨i, hi, e⟩ := List.mem_mapIdx.mp hx
    rw [← e]
    exact pick1 i md _ (List.getElem_mem _)
  have hfl : (fmS md).length = 10 := by unfold fmS; rw [List.length_mapIdx]; rfl
  exact Mine.q86 this hfl
theorem sifC {prog : Program} {w : World} {n₀ : Nat} {A : Around} {s : Shared} {Q E : Value → Shared → Prop} (G : Gd w n₀ s.heap) (r : Rm A 2 10) (hs : n₀ ≤ s.heap.objs.size) {md : Int} {t0 : Tok}
    (ret : ∀ h' tk t, Kp s.heap h' → Q (.int (Builtin.bitAnd md 61440) t) { s with heap := h', toks := tk }) :
    wpAny (model prog w) A (call (.ref 175) [.int md t0]) Q E s := by
  w_on
  refine wpAny_call ?_
  refine' startQ (K := Mine.hd.heap_1 w.params) [] [(Str.ofString "mode", .int md t0)] (d := 1) (u := 7) r (fun _ q => q) G hs trivial ?k4 ?k5 ?k7 ?k8 ?_ ?c2 ?c3 ?c4 ?c5
  (case k4 => k_is)
  (case k5 => k_is)
  (case k7 => exact BindsTo.of_eq rfl)
  (case k8 => exact locs rfl)
  (case c2 => exact rfl)
  (case c3 => exact rfl)
  (case c4 => exact rfl)
  (case c5 => decide)
  intro A' PQ PE rA hQ1 hQ2 h₁ h₀ L tail mean mg mb tk0 B F N X TT
  simp only [List.nil_append] at N
  have TR := topRead_of TT
  w_strict (
  k_steps
  (rename Fr _ _ _ _ => F3); (rename News _ _ _ _ => N3)
  exact hQ1 _ _ (ret _ _ _ (B.fin _ _ _ F3 N3 fun q hq => hq).kp))
theorem fmC {prog : Program} {w : World} {n₀ : Nat} {A : Around} {s : Shared} {Q E : Value → Shared → Prop} (G : Gd w n₀ s.heap) (r : Rm A 5 30) (hs : n₀ ≤ s.heap.objs.size) {md : Int} {t0 : Tok}
    (ret : ∀ h' tk t, Kp s.heap h' → Q (.str (Txt.join "" (fmS md)) t) { s with heap := h', toks := tk }) :
    wpAny (model prog w) A (call (.ref 215) [.int md t0]) Q E s := by
  w_on
  refine wpAny_call ?_
  refine' startQ (K := Mine.hd.heap_1 w.params) [] [(Str.ofString "mode", .int md t0)] (d := 4) (u := 27) r (fun _ q => q) G hs trivial ?k4 ?k5 ?k7 ?k8 ?_ ?c2 ?c3 ?c4 ?c5
  (case k4 => k_is)
  (case k5 => k_is)
  (case k7 => exact BindsTo.of_eq rfl)
  (case k8 => exact locs rfl)
  (case c2 => exact rfl)
  (case c3 => exact rfl)
  (case c4 => exact rfl)
  (case c5 => decide)
  intro A' PQ PE rA hQ1 hQ2 h₁ h₀ L tail mean mg mb tk0 B F N X TT
  simp only [List.nil_append] at N
  have TR := topRead_of TT
  w_strict (
  k_steps
  refine wpAny_For ?_
  k_steps
  (rename Fr _ _ _ _ => F5); (rename News _ _ _ _ => N5)
  rename_i aP _ _ h5
  have gP5 := N5.get (.head _)
  have nPL := (N5 _ (.head _)).2.1
  refine call_enum_tup (fmAt0 (X.keeps F5.keep)) ?_
  intro h6 en6 it6 z6 k6
  dsimp only at z6 k6 en6 it6
  refine wpAny_pyIter_enum en6 ?_
  have kp5 : Kp s.heap h5 := (B.fin _ _ _ F5 N5 fun q hq => tl hq).kp
  have kp6 : Kp s.heap h6 := kp5.trans k6
  have lI : s.heap.objs.size ≤ h5.objs.size := Nat.le_trans B.ls (Nat.le_of_lt F5.ns.lt)
  have zL := ltN F5.ns.lt
  have zP := ltN (Heap.lt_size gP5)
  have fP : s.heap.get? aP = none := B.fresh _ (N5 _ (.head _)).2.2 List.not_mem_nil
  have bL := B.ln
  have lsL : @LE.le Nat _ s.heap.objs.size L := B.ls
  have z208 : (208 : Nat) < s.heap.objs.size := Heap.lt_size (fmAt G.X _ (.head _))
  obtain ⟨m5, F6, e1, e2⟩ : ∃ m5, Fr h₀ L h5 m5 ∧ m5 (Str.ofString "perm") = some (.ref aP) ∧ m5 (Str.ofString "mode") = some (.int md t0) := ⟨_, F5, rfl, rfl⟩
  refine forT rA.hh (fun i m h => (∀ y, y ≠ Str.ofString "index" → y ≠ Str.ofString "table" → y ≠ Str.ofString "bit" → y ≠ Str.ofString "char" → m y = m5 y) ∧ Kp s.heap h ∧ ∃ vs n, h.get? aP = some (W.listOf vs n) ∧ StrsAre vs.toList ((fmS md).take i))
    (WP.of (WalksT.enumerateD (drawsTup (A := A'.in1) rA.hh h5.objs.size 208 (neN (by exact Mine.q87 zL lsL z208)) (fmTabs.map fun t => Value.ref t.1).toArray) (h5.objs.size + 1) (neN (by exact Mine.q88)) (nin2 (neN (by exact Mine.q88)) (neN (by exact Mine.q89 zL lsL z208))) (.head _))) (P2 := fun i v0 v1 => ∃ tk t, fmTabs[i]? = some t ∧ v0 = .int i tk ∧ v1 = .ref t.1) (fun i vals ⟨tk, x, h1, h2⟩ => by
      rw [List.getElem?_toArray, List.getElem?_map] at h1
      obtain ⟨t, e1, e2⟩ := Option.map_eq_some_iff.mp h1
      exact ⟨_, _, h2, tk, t, e1, rfl, e2.symm⟩) rfl rfl rfl (show L ∉ [h5.objs.size + 1, h5.objs.size, 208] from nin3 (neN (by exact Mine.q90 zL)) (neN (by exact Mine.q60 zL)) (neN (by exact Mine.q91 lsL z208))) ⟨⟨_, en6⟩, it6, fmAt0 (X.keeps fun b o e => k6 b o (F5.keep b o e))⟩ (F6.ns.keeps k6) ⟨fun _ _ _ _ _ => rfl, kp6, #[], 0, k6 _ _ gP5, .nil⟩ ?_ ?_
  · rintro PT PE7 i v0 v1 m h hh tk7 hPT hRet hBrk hi ⟨ti, t, ht, rfl, rfl⟩ ⟨jm, jK, vs, vn, jP, jS⟩ kb hn7 st
    have htm := List.mem_of_getElem? ht
    have nPI : aP ∉ [L, h5.objs.size + 1, h5.objs.size] := nin3 nPL (neN (by exact Mine.q90 zP)) (neN (by exact Mine.q60 zP))
    have fI : s.heap.get? h5.objs.size = none := Heap.get?_none_of_le lI
    have fI' : s.heap.get? (h5.objs.size + 1) = none := Heap.get?_none_of_le (Nat.le_succ_of_le lI)
    have K7 : Kp s.heap hh := kp_new jK kb (al3 B.lf fI' fI)
    have gP7 := kb _ _ nPI jP
    have em := congrArg (fun f : Str → Option Value => fun y => if y = Str.ofString "table" then some (Value.ref t.1) else if y = Str.ofString "index" then some (Value.int i ti) else f y) ((named ((jm _ (by decide) (by decide) (by decide) (by decide)).trans e1)).trans (congrArg (fun f : Str → Option Value => fun y => if y = Str.ofString "perm" then some (.ref aP) else f y) (named ((jm _ (by decide) (by decide) (by decide) (by decide)).trans e2))))
    rw [em] at hn7
    obtain ⟨h₀9, tail9, F9, N9, off9, lt9, X9, ⟨mean9, mg9, mb9, T9⟩, hid9, bk9⟩ := rebaseF [(aP, W.listOf vs vn)] G K7 hn7 bL (List.forall_mem_singleton.mpr ⟨gP7, nPL, .inr fP⟩)
    simp only [List.cons_append, List.nil_append] at N9 F9
    have TR9 := topRead_of T9
    clear F5 N5 F6 X TT TR
    k_steps
    refine wpAny_For ?_
    refine nameX_L F9 rfl ?_ rfl rfl
    refine wpAny_pyIter_tuple (fmAt1 (X9.keeps F9.keep) htm) ?_
    have z7 : h5.objs.size + 1 < hh.objs.size := by
      obtain ⟨⟨_, q⟩, _⟩ := st
      exact Heap.lt_size q
    have kp8 : Kp hh (hh.push { cls := .type "tuple_iterator", data := .fields #[.ref t.1, .int 0 0] }) := fun b o e => Heap.get?_push_of_some _ e
    have K8 := K7.trans kp8
    have gI8 : (hh.push { cls := .type "tuple_iterator", data := .fields #[.ref t.1, .int 0 0] }).IsTupleIter hh.objs.size t.1 0 := ⟨_, Heap.get?_push_size _ rfl, rfl, rfl⟩
    have gP8 := kp8 _ _ gP7
    have zP7 := ltN (Heap.lt_size gP7)
    have zL7 := ltN hn7.lt
    have zt : @LT.lt Nat _ t.1 s.heap.objs.size := by
      obtain ⟨_, q, _⟩ := fmAt1 G.X htm
      exact Heap.lt_size q
    have ztp : ∀ p ∈ t.2, @LT.lt Nat _ p.1 s.heap.objs.size := fun p hp => by
      obtain ⟨_, q, _⟩ := fmAt2 G.X htm hp
      exact Heap.lt_size q
    have fI7 : s.heap.get? hh.objs.size = none := Heap.get?_none_of_le (by exact Mine.q92 lI z7)
    obtain ⟨m8, F8, g1, g2, g3, gq⟩ : ∃ m8, Fr h₀9 L (hh.push { cls := .type "tuple_iterator", data := .fields #[.ref t.1, .int 0 0] }) m8 ∧ m8 (Str.ofString "index") = some (.int i ti) ∧ m8 (Str.ofString "perm") = some (.ref aP) ∧ m8 (Str.ofString "mode") = some (.int md t0) ∧ (∀ y, y ≠ Str.ofString "index" → y ≠ Str.ofString "table" → y ≠ Str.ofString "bit" → y ≠ Str.ofString "char" → m8 y = m5 y) :=
      ⟨_, F9.push _, rfl, rfl, rfl, fun y h1 h2 h3 h4 => ((congrFun em y).symm.trans ((if_neg h2).trans (if_neg h1))).trans (jm y h1 h2 h3 h4)⟩
    have hvz : vs.size ≤ 100 := by
      have q := jS.length
      rw [Array.length_toList, List.length_take] at q
      have : (fmS md).length = 10 := by unfold fmS; rw [List.length_mapIdx]; rfl
      exact Mine.q93 q this
    have closeO : ∀ hC mC tkC vs' n', hC.Ns L mC → (∀ y, y ≠ Str.ofString "bit" → y ≠ Str.ofString "char" → mC y = m8 y) → KpB [L, hh.objs.size, aP] (hh.push { cls := .type "tuple_iterator", data := .fields #[.ref t.1, .int 0 0] }) hC → hC.get? aP = some (W.listOf vs' n') → StrsAre vs'.toList ((fmS md).take i ++ [pickT i md t.2]) → PT .next { s with heap := hC, toks := tkC } := by
      intro hC mC tkC vs' n' hnC hmC kC gC sC
      have up : ∀ b o, (b : Nat) ≠ L → (b : Nat) ≠ aP → hh.get? b = some o → hC.get? b = some o := fun b o h1 h2 q => kC b o (nin3 h1 (Nat.ne_of_lt (Heap.lt_size q)) h2) (kp8 b o q)
      obtain ⟨⟨old, q1⟩, ⟨o2, q2, r2⟩, ⟨o3, q3, r3⟩⟩ := st
      exact hPT _ _ ⟨.inl rfl, _, _, _, rfl, hnC, ⟨⟨old, up _ _ (neN (by exact Mine.q94 zL)) (neN (by exact Mine.q94 zP)) q1⟩, ⟨o2, up _ _ (neN (by exact Mine.q7 zL)) (neN (by exact Mine.q7 zP)) q2, r2⟩, ⟨o3, up _ _ (neN (by exact Mine.q95 lsL z208)) (neN (fun q => by rw [← q] at fP; rw [fmAt G.X _ (.head _)] at fP; cases fP)) q3, r3⟩⟩, fun y h1 h2 h3 h4 => (hmC y h3 h4).trans (gq y h1 h2 h3 h4), kp_new K8 kC (al3 B.lf fI7 fP), vs', n', gC, by rw [fmS_snoc ht]; exact sC⟩
    clear F9 N9 X9 T9 TR9 bk9
    have hLfp : L ∉ hh.objs.size :: t.1 :: t.2.map (·.1) := fun q => by
      rcases List.mem_cons.mp q with q | q
      · exact absurd (neN' (show L = hh.objs.size from q)) (by exact Mine.q96 zL z7)
      · rcases List.mem_cons.mp q with q | q
        · exact absurd (neN' (show L = t.1 from q)) (by exact Mine.q97 lsL zt)
        · obtain ⟨p, hp, e⟩ := List.mem_map.mp q
          have z1 := ztp p hp
          exact absurd (neN' (show p.1 = L from e)) (by exact Mine.q98 lsL z1)
    have Wk8 := walksPairs (prog := prog) (w := w) (A := A') rA.hh hh.objs.size t.1 (neN (by exact Mine.q99 lI z7 zt)) _ (t.2.map fmP) (show (t.2.map fun p => Value.ref p.1).toArray.toList = _ by rw [List.map_map]; rfl) (t.2.map (·.1)) (fun p hp => by obtain ⟨q, hq, e⟩ := List.mem_map.mp hp; exact List.mem_map.mpr ⟨q, hq, congrArg Prod.fst e⟩) (fun q => by
        obtain ⟨p, hp, e⟩ := List.mem_map.mp q
        have z1 := ztp p hp
        have z2 := neN' e
        exact Mine.q100 lI z7 z1 z2)
    refine forT rA.hh (fun j m h => (∀ y, y ≠ Str.ofString "bit" → y ≠ Str.ofString "char" → m y = m8 y) ∧ KpB [L, hh.objs.size] (hh.push { cls := .type "tuple_iterator", data := .fields #[.ref t.1, .int 0 0] }) h ∧ ∀ k p, k < j → t.2[k]? = some p → fmTest i md p.2.1.1 = false)
      Wk8 (P2 := fun j v0 v1 => ∃ p, t.2[j]? = some p ∧ v0 = .int p.2.1.1 p.2.1.2 ∧ v1 = .str p.2.2.1 p.2.2.2) (fun j vals ⟨p, h1, h2⟩ => by
        rw [List.getElem?_map] at h1
        obtain ⟨q, e1, e2⟩ := Option.map_eq_some_iff.mp h1
        exact ⟨_, _, h2, q, e1, by rw [← e2], by rw [← e2]⟩) rfl rfl rfl hLfp ⟨⟨gI8, fmAt1 (G.keep K8).X htm⟩, fun p hp => by
          obtain ⟨q, hq, e⟩ := List.mem_map.mp hp
          exact e ▸ fmAt2 (G.keep K8).X htm hq⟩ F8.ns ⟨fun _ _ _ => rfl, fun _ _ _ e => e, fun _ _ hk => absurd hk (Nat.not_lt_zero _)⟩ ?_ ?_
    · rintro PT' PE8 j v0 v1 m' h' hh' tk8 hPT' hRet' hBrk' hj ⟨p, hp, rfl, rfl⟩ ⟨jm', jK', jT⟩ kb' hn8 st'
      have nPI8 : aP ∉ [L, hh.objs.size] := nin2 nPL (neN (by exact Mine.q60 zP7))
      have k8 : KpB [L, hh.objs.size] (hh.push { cls := .type "tuple_iterator", data := .fields #[.ref t.1, .int 0 0] }) hh' := jK'.trans kb'
      have K9 := kp_new K8 k8 (al2 B.lf fI7)
      have gP9 := k8 _ _ nPI8 gP8
      have em' := congrArg (fun f : Str → Option Value => fun y => if y = Str.ofString "char" then some (Value.str p.2.2.1 p.2.2.2) else if y = Str.ofString "bit" then some (Value.int p.2.1.1 p.2.1.2) else f y) ((named ((jm' _ (by decide) (by decide)).trans g1)).trans (congrArg (fun f : Str → Option Value => fun y => if y = Str.ofString "index" then some (.int i ti) else f y) ((named ((jm' _ (by decide) (by decide)).trans g2)).trans (congrArg (fun f : Str → Option Value => fun y => if y = Str.ofString "perm" then some (.ref aP) else f y) (named ((jm' _ (by decide) (by decide)).trans g3))))))
      rw [em'] at hn8
      obtain ⟨h₀9, tail9, F9, N9, off9, lt9, X9, ⟨mean9, mg9, mb9, T9⟩, hid9, bk9⟩ := rebaseF [(aP, W.listOf vs vn)] G K9 hn8 bL (List.forall_mem_singleton.mpr ⟨gP9, nPL, .inr fP⟩)
      simp only [List.cons_append, List.nil_append] at N9 F9
      have TR9 := topRead_of T9
      have tP9 : ∀ q ∈ tail9, q.1 ≠ aP := fun q hq e => off9 q hq (e ▸ .head _)
      have closeN : ∀ hF mF tkF, hF.Ns L mF → (∀ y, y ≠ Str.ofString "bit" → y ≠ Str.ofString "char" → mF y = m8 y) → KpB [L] hh' hF → fmTest i md p.2.1.1 = false → PT' .next { s with heap := hF, toks := tkF } := by
        intro hF mF tkF hnF hmF kF hz
        refine hPT' _ _ ⟨.inl rfl, _, _, _, rfl, hnF, Wk8.frame _ _ _ st' fun b hb o e => kF b o (nin1 fun z => hLfp (z ▸ hb)) e, hmF, k8.trans (kF.more fun a q => by rw [List.mem_singleton.mp q]; exact .head _), fun k q hk hq => ?_⟩
        rcases Nat.lt_succ_iff_lt_or_eq.mp hk with z | z
        · exact jT k q z hq
        · subst z
          rw [hp] at hq; cases hq
          exact hz
      have closeM : ∀ hF mF tkF n', hF.Ns L mF → (∀ y, y ≠ Str.ofString "bit" → y ≠ Str.ofString "char" → mF y = m8 y) → KpB [L, aP] hh' hF → hF.get? aP = some (W.listOf (vs.push (.str p.2.2.1 p.2.2.2)) n') → fmTest i md p.2.1.1 = true → PT' .brk { s with heap := hF, toks := tkF } := by
        intro hF mF tkF n' hnF hmF kF gF hz
        refine hBrk' _ (wpAny_execs_nil (closeO hF mF tkF _ n' hnF hmF ((k8.more ?_).trans (kF.more ?_)) gF ?_))
        · exact al2 (.head _) (tl (.head _))
        · exact al2 (.head _) (tl (tl (.head _)))
        · rw [Array.toList_push]
          refine StrsAre.append jS ?_
          rw [show pickT i md t.2 = p.2.2.1 by unfold pickT; rw [find_at jT hp hz]]
          exact .cons _ _ .nil
      have gR : ∀ y, y ≠ Str.ofString "bit" → y ≠ Str.ofString "char" → _ = m8 y := fun y h1 h2 => (congrFun em' y).symm.trans ((if_neg h2).trans ((if_neg h1).trans (jm' y h1 h2)))
      k_steps
      · rename_i hz0
        refine sifC (G.keep K9) (rA.less (by exact Mine.q101) (by exact Mine.q102)) (by exact Nat.le_trans bL (Nat.le_of_lt hn8.lt)) ?_
        intro h10 tk10 t10 kp10
        have F10 := F9.keeps kp10
        have N10 := N9.grown kp10
        clear F9 N9
        dsimp only
        k_steps
        · rename_i hz1
          (rename Fr _ _ _ _ => F11); (rename News _ _ _ _ => N11)
          refine' append_K F11 N11 (its := vs) (n := vn) ?U1 ?_ ?Z1
          (case U1 => k_upd)
          (case Z1 => (rw [sizeLine_eq]; exact Mine.q103 hvz))
          intro h12 F12 N12
          clear F11 N11
          dsimp only
          k_steps
          refine closeM _ _ _ _ F12.ns gR ((bk9 _ _ _ F12 N12 fun q hq => tl hq).more fun a q => q) (N12.get (.head _)) ?_
          unfold fmTest
          rw [if_pos (by exact Mine.q104 hz0)]
          exact decide_eq_true hz1
        · rename_i hz1
          (rename Fr _ _ _ _ => F12); (rename News _ _ _ _ => N12)
          refine closeN _ _ _ F12.ns gR ((bk9 _ _ _ F12 N12 fun q hq => tl hq).less (al2 (.inl (.head _)) (.inr ⟨_, gP9, N12.get (.head _)⟩))) ?_
          unfold fmTest
          rw [if_pos (by exact Mine.q104 hz0)]
          exact decide_eq_false hz1
      · rename_i hz0 hz1
        (rename Fr _ _ _ _ => F11); (rename News _ _ _ _ => N11)
        refine' append_K F11 N11 (its := vs) (n := vn) ?U2 ?_ ?Z2
        (case U2 => k_upd)
        (case Z2 => (rw [sizeLine_eq]; exact Mine.q103 hvz))
        intro h12 F12 N12
        clear F11 N11
        dsimp only
        k_steps
        refine closeM _ _ _ _ F12.ns gR ((bk9 _ _ _ F12 N12 fun q hq => tl hq).more fun a q => q) (N12.get (.head _)) ?_
        unfold fmTest
        rw [if_neg (by exact Mine.q105 ‹_›)]
        exact decide_eq_true hz1
      · rename_i hz0 hz1
        (rename Fr _ _ _ _ => F12); (rename News _ _ _ _ => N12)
        refine closeN _ _ _ F12.ns gR ((bk9 _ _ _ F12 N12 fun q hq => tl hq).less (al2 (.inl (.head _)) (.inr ⟨_, gP9, N12.get (.head _)⟩))) ?_
        unfold fmTest
        rw [if_neg (by exact Mine.q105 ‹_›)]
        exact decide_eq_false hz1
    · rintro PE8 m' h' hh' tk8 ⟨jm', jK', jT⟩ kb' hn8
      have hnone : t.2.find? (fun p => fmTest i md p.2.1.1) = none := find_no fun k q hk hq => jT k q (by rw [List.size_toArray, List.length_map]; exact hk) hq
      have nPI8 : aP ∉ [L, hh.objs.size] := nin2 nPL (neN (by exact Mine.q60 zP7))
      have k8 : KpB [L, hh.objs.size] (hh.push { cls := .type "tuple_iterator", data := .fields #[.ref t.1, .int 0 0] }) hh' := jK'.trans (kb'.more fun a q => tl q)
      have K9 := kp_new K8 k8 (al2 B.lf fI7)
      have gP9 := k8 _ _ nPI8 gP8
      have em' := (named ((jm' _ (by decide) (by decide)).trans g1)).trans (congrArg (fun f : Str → Option Value => fun y => if y = Str.ofString "index" then some (.int i ti) else f y) (named ((jm' _ (by decide) (by decide)).trans g2)))
      rw [em'] at hn8
      obtain ⟨h₀9, tail9, F9, N9, off9, lt9, X9, ⟨mean9, mg9, mb9, T9⟩, hid9, bk9⟩ := rebaseF [(aP, W.listOf vs vn)] G K9 hn8 bL (List.forall_mem_singleton.mpr ⟨gP9, nPL, .inr fP⟩)
      simp only [List.cons_append, List.nil_append] at N9 F9
      have TR9 := topRead_of T9
      have tP9 : ∀ q ∈ tail9, q.1 ≠ aP := fun q hq e => off9 q hq (e ▸ .head _)
      k_steps
      · rename_i hz0
        (rename Fr _ _ _ _ => F11); (rename News _ _ _ _ => N11)
        refine' append_K F11 N11 (its := vs) (n := vn) ?U3 ?_ ?Z3
        (case U3 => k_upd)
        (case Z3 => (rw [sizeLine_eq]; exact Mine.q103 hvz))
        intro h12 F12 N12
        clear F11 N11
        dsimp only
        k_steps
        refine closeO _ _ _ _ _ F12.ns (fun y h1 h2 => (congrFun em' y).symm.trans (jm' y h1 h2)) ((k8.more (al2 (.head _) (tl (.head _)))).trans ((bk9 _ _ _ F12 N12 fun q hq => tl hq).more (al2 (.head _) (tl (tl (.head _)))))) (N12.get (.head _)) ?_
        rw [Array.toList_push]
        refine StrsAre.append jS ?_
        rw [show pickT i md t.2 = "?" by unfold pickT; rw [hnone, if_pos (by exact Mine.q104 hz0)]]
        exact .cons _ _ .nil
      · rename_i hz0
        (rename Fr _ _ _ _ => F11); (rename News _ _ _ _ => N11)
        refine' append_K F11 N11 (its := vs) (n := vn) ?U4 ?_ ?Z4
        (case U4 => k_upd)
        (case Z4 => (rw [sizeLine_eq]; exact Mine.q103 hvz))
        intro h12 F12 N12
        clear F11 N11
        dsimp only
        k_steps
        refine closeO _ _ _ _ _ F12.ns (fun y h1 h2 => (congrFun em' y).symm.trans (jm' y h1 h2)) ((k8.more (al2 (.head _) (tl (.head _)))).trans ((bk9 _ _ _ F12 N12 fun q hq => tl hq).more (al2 (.head _) (tl (tl (.head _)))))) (N12.get (.head _)) ?_
        rw [Array.toList_push]
        refine StrsAre.append jS ?_
        rw [show pickT i md t.2 = "-" by unfold pickT; rw [hnone, if_neg (by exact Mine.q105 hz0)]]
        exact .cons _ _ .nil
  · rintro PE7 m h hh tk7 ⟨jm, jK, vs, vn, jP, jS⟩ kb hn7
    have hfl : (fmS md).length = 10 := by unfold fmS; rw [List.length_mapIdx]; rfl
    have etk : (fmS md).take (fmTabs.map fun t => Value.ref t.1).toArray.size = fmS md := List.take_of_length_le (by rw [hfl]; decide)
    rw [etk] at jS
    have nPI : aP ∉ [h5.objs.size + 1, h5.objs.size] := nin2 (neN (by exact Mine.q90 zP)) (neN (by exact Mine.q60 zP))
    have fI : s.heap.get? h5.objs.size = none := Heap.get?_none_of_le lI
    have fI' : s.heap.get? (h5.objs.size + 1) = none := Heap.get?_none_of_le (Nat.le_succ_of_le lI)
    have K7 : Kp s.heap hh := kp_new jK kb (al2 fI' fI)
    have gP7 := kb _ _ nPI jP
    have em := (named ((jm _ (by decide) (by decide) (by decide) (by decide)).trans e1))
    rw [em] at hn7
    obtain ⟨h₀9, tail9, F9, N9, off9, lt9, X9, ⟨mean9, mg9, mb9, T9⟩, hid9, bk9⟩ := rebaseF [(aP, W.listOf vs vn)] G K7 hn7 bL (List.forall_mem_singleton.mpr ⟨gP7, nPL, .inr fP⟩)
    simp only [List.cons_append, List.nil_append] at N9 F9
    have TR9 := topRead_of T9
    clear F5 N5 F6 X TT TR
    k_steps
    refine join_listC (IsL.isList (N9.get (.head _))) jS (by decide) (by rw [hfl]; exact fmS_small md) ?_
    intro t' k'
    k_steps
    exact hQ1 _ _ (ret _ _ _ (kp_new K7 (bk9 _ _ _ F9 N9 fun q hq => tl hq) (al2 B.lf fP))))
end Mine
end
section
open PySem PySem.W PyProof.Rows PySem.Calls PySem.Spec
set_option Elab.async false
set_option maxRecDepth 100000
set_option maxHeartbeats 4000000
namespace Mine
/-- an iterator and what it gives to a target -/
structure Nx (prog : Program) (w : World) (A : Around) (tgt : PySem.Expr) (I : Addr) (fp wr : List Addr) (n : Nat) (P : Nat → Value → Heap → Prop) (St : Nat → Heap → Prop) : Prop where
  sub : ∀ b ∈ wr, b ∈ fp
  frame : ∀ i h h', St i h → (∀ b ∈ fp, ∀ o, h.get? b = some o → h'.get? b = some o) → St i h'
  item : ∀ i (s : Shared) (Q : Value → Shared → Prop) (R : Shared → Prop) (E : Value → Shared → Prop), i < n → St i s.heap → (∀ v h' tk, P i v h' → St (i + 1) h' → KpB wr s.heap h' → Q v { s with heap := h', toks := tk }) →
    wpAny (model prog w) A (pyNext (.ref I)) (fun r s₁ => match r with | none => R s₁ | some v => wpAny (model prog w) A (letOwnedTupleGo tgt (.ref I) v) (fun _ s₂ => Q v s₂) E s₁) E s
  done : ∀ (s : Shared) (Q : Option Value → Shared → Prop) (E : Value → Shared → Prop), St n s.heap → (∀ h' tk, KpB wr s.heap h' → Q none { s with heap := h', toks := tk }) → wpAny (model prog w) A (pyNext (.ref I)) Q E s
  self : ∀ i (s : Shared) (Q : Value → Shared → Prop) (E : Value → Shared → Prop), St i s.heap → Q (.ref I) s → wpAny (model prog w) A (pyIter (.ref I)) Q E s
section
variable {prog : Program} {w : World} {A : Around} {I : Addr} {fp wr : List Addr} {n : Nat} {St : Nat → Heap → Prop}
theorem Nx.name {P : Nat → Value → Prop} (Wk : Walks prog w A I fp wr n P St) (x : Str) (px : Pos) : Nx prog w A (.Name x px) I fp wr n (fun i v _ => P i v) St :=
  ⟨Wk.sub, Wk.frame, fun i s Q R E hi st hQ => Wk.item i s _ E hi st fun v h' tk a b c => wpAny_pure (hQ v h' tk a b c), fun s Q E st hQ => Wk.done s Q E st fun h' tk k => hQ h' tk k, Wk.self⟩
theorem Nx.pair {Pt : Nat → Array Value → Prop} {Mid : Nat → Addr → Heap → Prop} (Wk : WP prog w A I fp wr n Pt St Mid) (elts : List PySem.Expr) (k : Nat) (pt : Pos) : Nx prog w A (.Tuple elts k pt) I fp wr n (fun i v h => ∃ T vals, v = .ref T ∧ Pt i vals ∧ h.IsTuple T vals) St :=
  ⟨Wk.sub, Wk.frame, fun i s Q R E hi st hQ => Wk.item i s _ E hi st fun T vals h' tk a b c d => Wk.go elts k pt i T _ _ _ c fun h₂ st₂ k₂ => hQ _ h₂ tk ⟨T, vals, rfl, a, b.at fun o e => k₂ T o (Wk.apart i T h' c) e⟩ st₂ (fun b o hb e => k₂ b o hb (d b o hb e)), fun s Q E st hQ => Wk.done s Q E st fun h' tk k => hQ h' tk k, Wk.self⟩
end
section
variable {prog : Program} {w : World} {A : Around} {E : Value → Shared → Prop} {s : Shared} {env : Env} {elt iter tgt : PySem.Expr} {ifs : List PySem.Expr} {scope : Scope} {cl : List (Str × Addr)} {pos : Pos}
/-- one turn of a comprehension -/
noncomputable abbrev turnW (prog : Program) (w : World) (A : Around) (tgt elt : PySem.Expr) (ifs : List PySem.Expr) (cenv : Env) (v : Value) (ys : List Value) (PT : List Value → Shared → Prop) (PE : Value → Shared → Prop) : Shared → Prop :=
  wpAny (model prog w) A (assign tgt cenv v) (fun _ s₂ =>
    wpAny (model prog w) A (forIn ifs true fun c r => if r = true then do let ok ← isTrue c cenv (eval c cenv); pure (ForInStep.yield ok) else pure (ForInStep.yield r)) (fun ok s₃ =>
      if ok = true then wpAny (model prog w) A (eval elt cenv) (fun x s₄ => PT (ys ++ [x]) s₄) PE s₃ else PT ys s₃) PE s₂) PE
theorem compLoop_any {target : PySem.Expr} {it acc : Value} {cenv : Env} {R : Result → Shared → Prop} (J : Nat → Shared → Prop)
    (turn : ∀ n s, J n s → wpAny (model prog w) A (pyNext it) (fun r s₁ => match r with
      | none => R (.ok .next) s₁
      | some v => wpAny (model prog w) A (letOwnedTupleGo target it v) (fun _ s₁' => wpAny (model prog w) A (assign target cenv v) (fun _ s₂ =>
          wpAny (model prog w) A (forIn ifs true fun c r => if r = true then do let ok ← isTrue c cenv (eval c cenv); pure (ForInStep.yield ok) else pure (ForInStep.yield r)) (fun ok s₃ =>
            if ok = true then wpAny (model prog w) A (eval elt cenv) (fun x s₄ =>
              wpAny (model prog w) A (call (.builtin "list.append") [acc, x]) (fun _ s₅ => ∃ m, m < n ∧ J m s₅) (notedBy (model prog w) A cenv fun e s' => R (.error e) s') s₄) (notedBy (model prog w) A cenv fun e s' => R (.error e) s') s₃
            else ∃ m, m < n ∧ J m s₃) (notedBy (model prog w) A cenv fun e s' => R (.error e) s') s₂) (notedBy (model prog w) A cenv fun e s' => R (.error e) s') s₁') (notedBy (model prog w) A cenv fun e s' => R (.error e) s') s₁) (notedBy (model prog w) A cenv fun e s' => R (.error e) s') s)
    (n : Nat) (h : J n s) : codeAny (model prog w) A (.compLoop (.ListComp elt [⟨target, iter, ifs, 0⟩] scope pos) 0 it acc cenv) R s := by
  refine codeAny_loop rfl J (fun n s hI => ?_) n h
  show wpAny _ A ((compTurn (.ListComp elt [⟨target, iter, ifs, 0⟩] scope pos) 0 it acc cenv).onRaise (fun x => do noteFrame x cenv; theTreesLotGoes x)) _ _ s
  refine wpAny_noted ?_
  rw [compTurn_list]
  refine wpAny_bind (wpAny_standAt (wpAny_bind (wpAny_mono (turn n s hI) (fun r s₁ h₁ => ?_) fun _ _ h' => h')))
  cases r with
  | none => exact wpAny_pure h₁
  | some v =>
    refine wpAny_bind (wpAny_mono h₁ (fun _ s₁' h₁' => ?_) fun _ _ h' => h')
    refine wpAny_bind (wpAny_mono h₁' (fun _ s₂ h₂ => wpAny_bind (wpAny_mono h₂ (fun ok s₃ h₃ => ?_) fun _ _ h' => h')) fun _ _ h' => h')
    cases ok with
    | false => exact wpAny_pure ⟨rfl, h₃⟩
    | true => exact wpAny_bind (wpAny_bind (wpAny_mono h₃ (fun x s₄ h₄ => wpAny_bind (wpAny_mono h₄ (fun _ s₅ h₅ => wpAny_pure (wpAny_pure ⟨rfl, h₅⟩)) fun _ _ h' => h')) fun _ _ h' => h'))
noncomputable abbrev cellsAt (scope : Scope) (C : Addr) : List (Str × Addr) := cellsFrom (C + 1) scope.names []
noncomputable abbrev cV (scope : Scope) (C : Addr) : List Addr := C :: (cellsAt scope C).map (·.2)
noncomputable def Cls (scope : Scope) (C : Addr) (h : Heap) : Prop := ∀ c ∈ cellsAt scope C, ∃ u, h.IsCell c.2 u
/-- what a comprehension is to show: hb the heap ahead of its iterator; fin the end -/
inductive CompIs (prog : Program) (w : World) (A : Around) (tgt elt : PySem.Expr) (ifs : List PySem.Expr) (scope : Scope) (cl : List (Str × Addr)) (env : Env) (hb : Heap) (s₂ : Shared) (fin : Addr → Addr → List Value → Heap → Tok → Prop) : Value → Prop
  | mk (I : Addr) (fp wr : List Addr) (n : Nat) (P : Nat → Value → Heap → Prop) (St : Nat → Heap → Prop) (R : Addr → Addr → Nat → List Value → Heap → Prop) (nx : Nx prog w A tgt I fp wr n P St) (hsz : n ≤ sizeLine) (st : St 0 s₂.heap) (hfp : ∀ b ∈ fp, b < s₂.heap.objs.size)
    (kp : Kp hb s₂.heap) (hz : hb.objs.size ≤ s₂.heap.objs.size) (hwr : ∀ b ∈ wr, hb.get? b = none) (r0 : ∀ D C, s₂.heap.objs.size ≤ D → s₂.heap.objs.size ≤ C → R D C 0 [] s₂.heap)
    (rf : ∀ D C i ys h h', R D C i ys h → KpB (D :: cV scope C ++ wr) h h' → R D C i ys h')
    (turn : ∀ (PT : List Value → Shared → Prop) (PE : Value → Shared → Prop) D C i v ys m h tk, s₂.heap.objs.size ≤ C → (∀ c ∈ cV scope C, s₂.heap.get? c = none ∧ C ≤ c) → Cls scope C h → h.get? D = some (W.listOf ys.toArray ys.length) →
      (∀ ys' h' tk' m', KpB (cV scope C) h h' → h'.Ns C m' → Cls scope C h' → R D C (i + 1) ys' h' → ys'.length ≤ i + 1 → PT ys' { s₂ with heap := h', toks := tk' }) →
      i < n → P i v h → R D C i ys h → ys.length ≤ i → Kp hb h → h.Ns C m → turnW prog w A tgt elt ifs (cEnv scope (cellsFrom (C + 1) scope.names cl) C env) v ys PT PE { s₂ with heap := h, toks := tk })
    (done : ∀ D C ys h' tk n', Kp hb h' → hb.get? D = none → hb.objs.size ≤ D → h'.get? D = some (W.listOf ys.toArray n') → R D C n ys h' → ys.length ≤ n → D ≠ C → hb.objs.size ≤ C → (∃ m, h'.Ns C m) → fin D C ys h' tk) : CompIs prog w A tgt elt ifs scope cl env hb s₂ fin (.ref I)
theorem compIs_run {hb : Heap} {s₂ : Shared} {fin : Addr → Addr → List Value → Heap → Tok → Prop} {it : Value} {RR : Value → Addr → Result → Shared → Prop} (h : CompIs prog w A tgt elt ifs scope cl env hb s₂ fin it)
    (hR : ∀ D C ys h' tk, fin D C ys h' tk → (∃ m, h'.Ns C m) → RR (.ref D) C (.ok .next) { s₂ with heap := h', toks := tk }) :
    ∃ I, it = .ref I ∧ (∀ (s : Shared) (Q : Value → Shared → Prop) (E : Value → Shared → Prop), (∀ b o, s₂.heap.get? b = some o → s.heap.get? b = some o) → Q (.ref I) s → wpAny (model prog w) A (pyIter (.ref I)) Q E s) ∧
      ∀ D C h₁, CSt s₂.heap h₁ D C (cellsFrom (C + 1) scope.names []) →
        codeAny (model prog w) A (.compLoop (.ListComp elt [⟨tgt, iter, ifs, 0⟩] scope pos) 0 (.ref I) (.ref D) (cEnv scope (cellsFrom (C + 1) scope.names cl) C env)) (RR (.ref D) C) { s₂ with heap := h₁ } := by
  obtain ⟨I, fp, wr, n, P, St, R, nx, hsz, st, hfp, kp, hz, hwr, r0, rf, turn, done⟩ := h
  refine ⟨I, rfl, fun s Q E hk hq => nx.self 0 s Q E (nx.frame 0 _ _ st fun b _ o e => hk b o e) hq, fun D C h₁ CS => ?_⟩
  obtain ⟨cz1, cz2⟩ := CS.lo
  have hDf : D ∉ fp := fun q => absurd (hfp D q) (Nat.not_lt.mpr cz1)
  have hCf : C ∉ fp := fun q => absurd (hfp C q) (Nat.not_lt.mpr cz2)
  have hVf : ∀ c ∈ cV scope C, C ≤ c := fun c hc => by
    rcases List.mem_cons.mp hc with q | q
    · rw [q]; exact Nat.le_refl _
    · obtain ⟨p, hp, e⟩ := List.mem_map.mp q
      exact e ▸ Nat.le_of_lt (CS.cell p.1 p.2 hp).2
  have hVfp : ∀ b ∈ fp, b ∉ cV scope C := fun b hb q => absurd (hfp b hb) (Nat.not_lt.mpr (Nat.le_trans cz2 (hVf b q)))
  have hDV : D ∉ cV scope C := fun q => by
    rcases List.mem_cons.mp q with q | q
    · exact CS.ne q
    · obtain ⟨p, hp, e⟩ := List.mem_map.mp q
      obtain ⟨o, ho, hd⟩ := (CS.cell p.1 p.2 hp).1
      rw [show p.2 = D from e, CS.gD] at ho
      cases ho; cases hd
  have hDw : D ∉ wr := fun q => hDf (nx.sub _ q)
  have hCw : C ∉ wr := fun q => hCf (nx.sub _ q)
  have hcw : ∀ c ∈ cellsAt scope C, c.2 ∉ wr ∧ c.2 ≠ D := fun c hc => ⟨fun q => hVfp _ (nx.sub _ q) (.tail _ (List.mem_map_of_mem hc)), fun q => hDV (q ▸ .tail _ (List.mem_map_of_mem hc))⟩
  have hbn : ∀ a : Nat, s₂.heap.objs.size ≤ a → hb.get? a = none := fun a ha => Heap.get?_none_of_le (Nat.le_trans hz ha)
  refine compLoop_any (fun k s' => ∃ i ys h tk m, s' = { s₂ with heap := h, toks := tk } ∧ k = n - i ∧ i ≤ n ∧ St i h ∧ h.Ns C m ∧ h.get? D = some (W.listOf ys.toArray ys.length) ∧ R D C i ys h ∧ ys.length ≤ i ∧ Kp hb h ∧ Cls scope C h) ?_ n
    ⟨0, [], h₁, s₂.toks, _, rfl, rfl, Nat.zero_le _, nx.frame _ _ _ st fun b _ o e => CS.kp b o e, CS.ns, CS.gD, rf _ _ _ _ _ _ (r0 D C cz1 cz2) fun b o _ e => CS.kp b o e, Nat.le_refl _, kp.trans CS.kp, fun c hc => ⟨_, (CS.cell c.1 c.2 hc).1⟩⟩
  rintro k s' ⟨i, ys, h, tk, m, rfl, rfl, hi, sti, hni, gD, ji, hl, hk, hcl⟩
  have clK : ∀ {h h' : Heap} {W : List Addr}, Cls scope C h → KpB W h h' → (∀ c ∈ cellsAt scope C, c.2 ∉ W) → Cls scope C h' := fun x k hw c hc => by
    obtain ⟨u, o, ho, hd⟩ := x c hc
    exact ⟨u, o, k _ _ (hw c hc) ho, hd⟩
  by_cases hlt : i < n
  · refine wpAny_mono (nx.item i _ (fun v s₂ => _) (fun _ => False) _ hlt sti fun v h₁ tk₁ hP st₁ kb => ?_) (fun r s₁ h₁ => by cases r with | none => exact absurd h₁ id | some v => exact h₁) fun _ _ e => e
    have hk1 : Kp hb h₁ := fun b o e => kb b o (fun q => by rw [hwr b q] at e; cases e) (hk b o e)
    refine wpAny_mono (turn (fun ys' s₄ => ∃ h' tk' m', s₄ = { s₂ with heap := h', toks := tk' } ∧ KpB (cV scope C) h₁ h' ∧ h'.Ns C m' ∧ Cls scope C h' ∧ R D C (i + 1) ys' h' ∧ ys'.length ≤ i + 1) _ D C i v ys m h₁ tk₁ cz2 (fun c hc => ⟨Heap.get?_none_of_le (Nat.le_trans cz2 (hVf c hc)), hVf c hc⟩) (clK hcl kb fun c hc => (hcw c hc).1) (kb _ _ hDw gD)
      (fun ys' h' tk' m' a b c d e => ⟨h', tk', m', rfl, a, b, c, d, e⟩) hlt hP (rf _ _ _ _ _ _ ji (kb.more fun a q => List.mem_append_right _ q)) hl hk1 (hni.at' fun o e => kb _ o hCw e)) (fun _ s₂ h₂ => ?_) fun _ _ e => e
    refine wpAny_mono h₂ (fun ok s₃ h₃ => ?_) fun _ _ e => e
    have key : ∀ h' : Heap, KpB (cV scope C) h₁ h' → h'.get? D = some (W.listOf ys.toArray ys.length) ∧ St (i + 1) h' ∧ Kp hb h' := fun h' kV => ⟨kV _ _ hDV (kb _ _ hDw gD), nx.frame _ _ _ st₁ fun b hb o e => kV b o (hVfp b hb) e, fun b o e => kV b o (fun q => by rw [hbn b (Nat.le_trans cz2 (hVf b q))] at e; cases e) (hk1 b o e)⟩
    cases ok with
    | false =>
      obtain ⟨h', tk', m', rfl, kV, n', c', j', l'⟩ := h₃
      obtain ⟨d1, d2, d3⟩ := key h' kV
      exact ⟨n - (i + 1), by exact Mine.q14 hlt, i + 1, ys, h', tk', m', rfl, rfl, hlt, d2, n', d1, j', l', d3, c'⟩
    | true =>
      refine wpAny_mono h₃ (fun x s₄ h₄ => ?_) fun _ _ e => e
      obtain ⟨h', tk', m', rfl, kV, n', c', j', l'⟩ := h₄
      obtain ⟨d1, d2, d3⟩ := key h' kV
      refine append_at (hsz := by rw [List.size_toArray]; exact Nat.le_trans hl (Nat.le_trans (Nat.le_of_lt hlt) hsz)) d1 fun h₅ hs₅ ho₅ => ?_
      have kD : KpB [D] h' h₅ := fun b o hb q => hs₅.extBut b o (fun z => hb (z ▸ .head _)) q
      refine ⟨n - (i + 1), by exact Mine.q14 hlt, i + 1, ys ++ [x], h₅, tk', m', rfl, rfl, hlt, nx.frame _ _ _ d2 fun b hb o q => kD b o (nin1 fun z => hDf (z ▸ hb)) q, n'.sameBut hs₅ CS.ne.symm, ?_, rf _ _ _ _ _ _ j' (kD.more fun a q => by rw [List.mem_singleton.mp q]; exact .head _), l', fun b o e => kD b o (nin1 fun z => by rw [z, hbn D cz1] at e; cases e) (d3 b o e), clK c' kD fun c hc => nin1 (hcw c hc).2⟩
      rw [ho₅, List.push_toArray, List.length_append]; rfl
  · obtain rfl : i = n := Nat.le_antisymm hi (Nat.le_of_not_lt hlt)
    refine nx.done _ _ _ sti fun h₁ tk₁ kb => ?_
    have n1 : h₁.Ns C m := hni.at' fun o e => kb _ o hCw e
    exact hR D C ys h₁ tk₁ (done D C ys h₁ tk₁ ys.length (fun b o e => kb b o (fun q => by rw [hwr b q] at e; cases e) (hk b o e)) (hbn D cz1) (Nat.le_trans hz cz1) (kb _ _ hDw gD) (rf _ _ _ _ _ _ ji (kb.more fun a q => List.mem_append_right _ q)) hl CS.ne (Nat.le_trans hz cz2) ⟨m, n1⟩) ⟨m, n1⟩
/-- a comprehension as a value -/
theorem compV {hb : Heap} {Q : Value → Shared → Prop} (hclos : closureFor scope env = pure cl) (hkind : scope.kind = .function) (hnames : ∀ y ∈ scope.names, y.2 = .local → scope.names.lookup y.1 = some .local)
    (h : wpAny (model prog w) A (eval iter env) (fun xv s₁ => wpAny (model prog w) A (pyIter xv) (fun it s₂ => CompIs prog w A tgt elt ifs scope cl env hb s₂ (fun D C _ h' tk => ∀ h'', Heap.SameBut C h' h'' → Q (.ref D) { s₂ with heap := h'', toks := tk }) it) E s₁) E s)
    (hs : ∀ x, foldedSetIterable iter env x = pure x := by intro _; rfl) :
    wpAny (model prog w) A (eval (.ListComp elt [⟨tgt, iter, ifs, 0⟩] scope pos) env) Q E s :=
  compQ hclos hkind hnames (wpAny_mono h (fun xv s₁ h₁ => wpAny_mono h₁ (fun it s₂ h₂ => compIs_run (RR := fun acc C => compPost (model prog w) A E none Q acc C) h₂ fun D C ys h' tk f ⟨m, hn⟩ => ⟨m, hn, f⟩) fun _ _ e => e) fun _ _ e => e) hs
/-- a comprehension assigned to a name -/
theorem compAV {hb : Heap} {L : Addr} {mL : Str → Option Value} {y : Str} {py spos : Pos} {Q : Flow → Shared → Prop} (hsw : swapsWith (.ListComp elt [⟨tgt, iter, ifs, 0⟩] scope pos) (some (.Name y py)) spos.line env = pure true)
    (hclos : closureFor scope env = pure cl) (hkind : scope.kind = .function) (hnames : ∀ y ∈ scope.names, y.2 = .local → scope.names.lookup y.1 = some .local)
    (hL : env.locals = L) (hy : env.kindOf y = some .local) (hp : (env.scope.kind == .class || (env.scope.kind == .module && env.locals != env.globals)) = false) (hbL : hb.Ns L mL)
    (h : wpAny (model prog w) A (eval iter env) (fun xv s₁ => wpAny (model prog w) A (pyIter xv) (fun it s₂ => CompIs prog w A tgt elt ifs scope cl env hb s₂ (fun D C _ h' tk => Kp hb h' ∧ hb.objs.size ≤ C ∧ ∀ h'' tk', h''.Ns L (fun z => if z = y then some (.ref D) else mL z) → KpB [L, C] h' h'' → Q .next { s₂ with heap := h'', toks := tk' }) it) E s₁) E s)
    (hs : ∀ x, foldedSetIterable iter env x = pure x := by intro _; rfl) :
    wpAny (model prog w) A (exec (.Assign [.Name y py] (.ListComp elt [⟨tgt, iter, ifs, 0⟩] scope pos) spos) env) Q E s :=
  compAQ hsw hclos hkind hnames (wpAny_mono h (fun xv s₁ h₁ => wpAny_mono h₁ (fun it s₂ h₂ => compIs_run (RR := fun acc C => compPost (model prog w) A E (some (assign (.Name y py) env)) (fun _ s' => Q .next s') acc C) h₂ fun D C ys h' tk f hm => by
    obtain ⟨m, hn⟩ := hm
    obtain ⟨k, hc, f⟩ := f
    exact compAEnd hL hy hp hn (hbL.keeps k) (Nat.ne_of_lt (Nat.lt_of_lt_of_le hbL.lt hc)) f) fun _ _ e => e) fun _ _ e => e) hs
end
theorem kbCV {scope : Scope} {C : Addr} {h h' : Heap} (k : KpB [C] h h') : KpB (cV scope C) h h' := k.more fun a q => by rw [List.mem_singleton.mp q]; exact .head _
theorem clsNil {scope : Scope} {C : Addr} {h : Heap} (e : cellsAt scope C = []) : Cls scope C h := fun c hc => absurd (e ▸ hc) List.not_mem_nil
/-- range(a, b), walked -/
theorem itRange {prog : Program} {w : World} {A : Around} {E : Value → Shared → Prop} {s : Shared} {a b : Int} {n : Nat} {t u : Tok} {Q : Value → Shared → Prop} (hb : b = a + n) (h0 : 0 ≤ a) (h1 : a ≤ 1000000) (h2 : n ≤ 1000000)
    (h : ∀ h' I tk, Kp s.heap h' → s.heap.objs.size ≤ I → s.heap.objs.size ≤ h'.objs.size → IsRangeIter h' I a n 1 → Q (.ref I) { s with heap := h', toks := tk }) :
    wpAny (model prog w) A (call (.type "range") [.int a t, .int b u]) (fun xv s₁ => wpAny (model prog w) A (pyIter xv) Q E s₁) E s := by
  refine call_range_2 ?_
  refine wpAny_pyIter_range (IsRange.new _ _ _ _ _ _ _) (small_one (by omega) (by omega) (by omega) (by omega)) ?_
  have e : Builtin.Range.rangeSize a b 1 = n := by rw [rangeSize_one]; split <;> (first | exact Mine.q106 hb | exact Mine.q107 hb ‹_› | omega)
  rw [e]
  refine h _ _ _ (fun b o q => Heap.get?_push_of_some _ (Heap.get?_push_of_some _ q)) ?_ ?_ (Heap.get?_push_size _ rfl)
  · show s.heap.objs.size ≤ (s.heap.push _).objs.size
    rw [Heap.size_push]; exact Nat.le_succ _
  · show s.heap.objs.size ≤ ((s.heap.push _).push _).objs.size
    rw [Heap.size_push, Heap.size_push]; exact Nat.le_succ_of_le (Nat.le_succ _)
/-- range(n), walked -/
theorem itRange1 {prog : Program} {w : World} {A : Around} {E : Value → Shared → Prop} {s : Shared} {b : Int} {n : Nat} {u : Tok} {Q : Value → Shared → Prop} (hb : b = n) (h2 : n ≤ 1000000)
    (h : ∀ h' I tk, Kp s.heap h' → s.heap.objs.size ≤ I → s.heap.objs.size ≤ h'.objs.size → IsRangeIter h' I 0 n 1 → Q (.ref I) { s with heap := h', toks := tk }) :
    wpAny (model prog w) A (call (.type "range") [.int b u]) (fun xv s₁ => wpAny (model prog w) A (pyIter xv) Q E s₁) E s := by
  refine call_range_1 ?_
  refine wpAny_pyIter_range (IsRange.new _ _ _ _ _ _ _) (small_one (by omega) (by omega) (by omega) (by omega)) ?_
  have e : Builtin.Range.rangeSize 0 b 1 = n := by rw [rangeSize_one]; split <;> (first | exact Mine.q108 hb | exact Mine.q109 hb ‹_› | omega)
  rw [e]
  refine h _ _ _ (fun b o q => Heap.get?_push_of_some _ (Heap.get?_push_of_some _ q)) ?_ ?_ (Heap.get?_push_size _ rfl)
  · show s.heap.objs.size ≤ (s.heap.push _).objs.size
    rw [Heap.size_push]; exact Nat.le_succ _
  · show s.heap.objs.size ≤ ((s.heap.push _).push _).objs.size
    rw [Heap.size_push, Heap.size_push]; exact Nat.le_succ_of_le (Nat.le_succ _)
end Mine
end
local macro_rules
  | `(tactic| walk_at "eval Name") => `(tactic| ((with_reducible show wpAny _ _ (eval (PySem.Expr.Name _ _) (Mine.cEnv _ _ _ _)) _ _ _); (with_reducible rename Fr _ _ _ _ => kF); (with_reducible rename News _ _ _ _ => kN); k_dflt (first | (refine Mine.nameE_L kF rfl ?_ rfl rfl rfl rfl) | (refine Mine.nameE_C kN rfl (by k_mem) (by assumption) ?_ rfl rfl rfl) | (refine Mine.nameE_F kN rfl (by k_mem) (by assumption) ?_ rfl rfl rfl rfl))))
section
open PySem PySem.W PyProof.Rows PySem.Calls PySem.Spec
set_option Elab.async false
set_option maxRecDepth 100000
set_option maxHeartbeats 4000000
namespace Mine
theorem fillKI : (PySem.Challenge.rw_oc0253_01, Mine.hd.heap_1) = (PySem.Challenge.rw_oc0253_01, Mine.hd.heap_1) := by k_fill; rfl
noncomputable def bs01 (bs : List Bool) (i : Nat) : List Int := ((List.range i).filter fun j => bs[j + 1]? == some true).map fun j => (2 : Int) ^ (9 - (j + 1))
theorem lstC {prog : Program} {w : World} {n₀ : Nat} {A : Around} {s : Shared} {Q E : Value → Shared → Prop} (G : Gd w n₀ s.heap) (r : Rm A 8 60) (hs : n₀ ≤ s.heap.objs.size) {aR : Addr} {bs : List Bool} {rn : Nat} (hR : s.heap.get? aR = some (W.listOf (bs.map Value.bool).toArray rn)) (hbs : bs.length = 10)
    (ret : ∀ h' tk t, Kp s.heap h' → Q (.str (Txt.join "" (fmS ((if bs[0]? = some true then 16384 else 32768) + (bs01 bs 9).sum))) t) { s with heap := h', toks := tk }) :
    wpAny (model prog w) A (call (.ref 230) [.ref aR]) Q E s := by
  w_on
  refine wpAny_call ?_
  refine' startC (K := Mine.hd.heap_1 w.params) [] [(Str.ofString "rights", .ref aR)] (d := 7) (u := 57) r (fun _ q => q) G hs trivial ?k4 ?k5 ?k7 ?k8 ?k9 ?_ ?c2 ?c3 ?c4
  (case k4 => k_is)
  (case k5 => k_is)
  (case k7 => exact BindsTo.of_eq rfl)
  (case k8 => rfl)
  (case k9 => decide)
  (case c2 => exact rfl)
  (case c3 => exact rfl)
  (case c4 => exact rfl)
  intro A' PQ PE h₁ h₀ L tail mean mg mb tk0 cells rA hQ1 hQ2 hfr Y hcn B F N X TT
  obtain ⟨oc, rfl, hoc⟩ := CellsAre.one Y
  have hoc' : oc.data = .cell (some (.ref aR)) := hoc
  simp only [List.cons_append, List.nil_append] at N
  have TR := topRead_of TT
  w_strict (
  k_steps
  have kp1 : Kp s.heap h₁ := ((B.fin _ _ _ F N fun q hq => tl hq).fresh (W' := []) (List.forall_mem_singleton.mpr (.inr (hcn _ (.head _))))).kp
  have gR1 := kp1 _ _ hR
  have gC1 := N.get (.head _)
  have fC := hcn _ (.head _)
  refine compV (hb := h₁) (cl := [(Str.ofString "rights", L + 1)]) (by with_unfolding_all rfl) rfl (by decide) ?_
  k_steps
  refine itRange (n := 9) rfl (by decide) (by decide) (by decide) ?_
  intro h2 I tk2 kp2 z2 z3 it2
  refine CompIs.mk I [I] [I] 9 _ _ (fun _ _ i ys _ => IntsAre ys (bs01 bs i)) (Nx.name (Walks.range (A := A') rA.hh I 1 1 9) _ _) (by rw [sizeLine_eq]; decide) it2 (List.forall_mem_singleton.mpr (Heap.lt_size it2)) kp2 z3 (List.forall_mem_singleton.mpr (Heap.get?_none_of_le z2)) (fun _ _ _ _ => .nil) (fun _ _ _ _ _ _ q _ => q) ?_ ?_
  · intro PT PE D C i v ys m h tk hC hV hcl gD hPT hi hv hR' hys hk hn
    obtain ⟨t, rfl⟩ := hv
    refine asgL rfl rfl rfl hn fun h4 tk4 hn4 kb4 => ?_
    have nC : ∀ b o, h₁.get? b = some o → (b : Nat) ≠ C := fun b o e => Nat.ne_of_lt (Nat.lt_of_lt_of_le (Heap.lt_size e) (Nat.le_trans z3 hC))
    have K4 : Kp h₁ h4 := fun b o e => kb4 b o (nin1 (nC b o e)) (hk b o e)
    refine rebaseFK [(L + 1, oc)] G (kp1.trans K4) hn4 (Nat.le_trans hs (Nat.le_trans B.ls (Nat.le_trans (Nat.le_of_lt F.ns.lt) (Nat.le_trans z3 hC)))) (List.forall_mem_singleton.mpr ⟨K4 _ _ gC1, nC _ _ gC1, .inr fC⟩) fun h₀9 tail9 F9 N9 off9 lt9 X9 mean9 mg9 mb9 T9 hid9 bk9 => ?_
    simp only [List.cons_append, List.nil_append] at N9 F9
    have TR9 := topRead_of T9
    refine test1 ?_
    dsimp only
    k_steps
    obtain ⟨b, hb⟩ : ∃ b, bs[i + 1]? = some b := ⟨_, List.getElem?_eq_getElem (by exact Mine.q110 hbs hi)⟩
    refine item_at (IsL.isList (K4 _ _ gR1)) (i + 1) (by exact Mine.q111) (by rw [List.size_toArray, List.length_map]; exact Mine.q112 hbs) (by rw [List.getElem?_map, hb]; rfl) ?_
    have est : bs01 bs (i + 1) = bs01 bs i ++ if b = true then [(2 : Int) ^ (9 - (i + 1))] else [] := by
      unfold bs01
      rw [List.range_succ, List.filter_append, List.map_append, List.filter_cons, hb]
      cases b <;> rfl
    cases b
    · k_steps
      refine hPT _ _ _ _ (kbCV kb4) hn4 (clsNil rfl) ?_ (Nat.le_succ_of_le hys)
      rw [est, if_neg Bool.false_ne_true, List.append_nil]
      exact hR'
    · k_steps
      refine hPT _ _ _ _ (kbCV kb4) hn4 (clsNil rfl) ?_ (by rw [List.length_append]; exact Nat.succ_le_succ hys)
      rw [est, if_pos rfl, show (9 - (1 + (i : Int) * 1)).toNat = 9 - (i + 1) by exact Mine.q113]
      exact hR'.append (.cons _ _ .nil)
  · intro D C ys h' tk n' hk hD zD gD hR' hys hDC zC hCn h'' sb
    have nC : ∀ b o, h₁.get? b = some o → b ≠ C := fun b o e => Nat.ne_of_lt (Nat.lt_of_lt_of_le (Heap.lt_size e) zC)
    have K5 : Kp h₁ h'' := fun b o e => sb.extBut b o (nC b o e) (hk b o e)
    obtain ⟨F5, N5⟩ := led_new F N K5 zD (sb.extBut _ _ hDC gD)
    clear F N
    dsimp only
    k_steps
    refine sumK rA.hh F5 N5 (IsL.isList (N5.get (.head _))) hR' ?_
    intro h6 tk6 t6 F6 N6
    clear F5 N5
    dsimp only
    k_steps
    (rename Fr _ _ _ _ => F7); (rename News _ _ _ _ => N7)
    have kp7 : Kp s.heap _ := ((B.fin _ _ _ F7 N7 fun q hq => tl (tl hq)).fresh (W' := []) (List.forall_mem_singleton.mpr (.inr fC))).kp
    obtain ⟨b, hb⟩ : ∃ b, bs[0]? = some b := ⟨_, List.getElem?_eq_getElem (by exact Mine.q114 hbs)⟩
    refine item_at (IsL.isList (kp7 _ _ hR)) 0 rfl (by rw [List.size_toArray, List.length_map]; exact Mine.q112 hbs) (by rw [List.getElem?_map, hb]; rfl) ?_
    rw [hb] at ret
    cases b
    · k_steps
      refine fmC (G.keep kp7) (rA.less (by exact Mine.q115) (by exact Mine.q116)) (by exact (B.gd _ _ _ F7 N7).2) ?_
      intro h8 tk8 t8 kp8
      k_steps
      exact hQ1 _ _ (ret _ _ _ (kp7.trans kp8))
    · k_steps
      refine fmC (G.keep kp7) (rA.less (by exact Mine.q115) (by exact Mine.q116)) (by exact (B.gd _ _ _ F7 N7).2) ?_
      intro h8 tk8 t8 kp8
      k_steps
      exact hQ1 _ _ (ret _ _ _ (kp7.trans kp8)))
end Mine
end
local macro_rules
  | `(tactic| walk_at "exec Assign cons ListComp") => `(tactic| refine Mine.halt ?_)
  | `(tactic| walk_at "call builtin:len") => `(tactic| refine Mine.halt ?_)
  | `(tactic| walk_at "binaryOp FloorDiv int int") => `(tactic| refine Mine.halt ?_)
  | `(tactic| walk_at "binaryOp Mod int int") => `(tactic| refine Mine.halt ?_)
  | `(tactic| walk_at "binaryOp Pow int int") => `(tactic| refine Mine.halt ?_)
section
open PySem PySem.W PyProof.Rows PySem.Calls PySem.Spec
set_option Elab.async false
set_option maxRecDepth 100000
set_option maxHeartbeats 4000000
namespace Mine
theorem fillKG : (PySem.Challenge.rw_oc0253_01, Mine.hd.heap_1) = (PySem.Challenge.rw_oc0253_01, Mine.hd.heap_1) := by k_fill; rfl
theorem asgC {M : Model} {A : Around} {E : Value → Shared → Prop} {s : Shared} {env : Env} {x : Str} {px : Pos} {v : Value} {c : Addr} {Q : Unit → Shared → Prop} (hk : env.scope.kind = .function) (hx : env.kindOf x = some .cell) (hc : env.cells.lookup x = some c) (hv : ∃ u, s.heap.IsCell c u)
    (h : ∀ h' o, h'.get? c = some o → o.data = .cell (some v) → KpB [c] s.heap h' → Q () { s with heap := h' }) : wpAny M A (assign (.Name x px) env v) Q E s := by
  obtain ⟨u, hu⟩ := hv
  exact wpAny_assign_Name (wpAny_storeName_cell hk hx hc hu fun h' ⟨o, ho, hd⟩ hs => h h' o ho hd fun b q hb e => hs.extBut b q (fun z => hb (z ▸ .head _)) e)
noncomputable def gCnt (rows : List (List Bool)) (k : Nat) : Nat := rows.countP fun r => r[k]? == some true
noncomputable def gateF (kd : Int) (rows : List (List Bool)) : List Bool := (List.range 10).map fun k => decide ((2 * gCnt rows k : Int) > rows.length) || (decide (kd = 3) && decide ((2 * gCnt rows k : Int) = rows.length))
theorem gateC {prog : Program} {w : World} {n₀ : Nat} {A : Around} {s : Shared} {Q E : Value → Shared → Prop} (G : Gd w n₀ s.heap) (r : Rm A 8 60) (hs : n₀ ≤ s.heap.objs.size) {aR : Addr} {rws : List (Addr × List Bool)} {rn : Nat} {kd : Int} {t0 : Tok} (hR : s.heap.get? aR = some (W.listOf (rws.map fun p => Value.ref p.1).toArray rn))
    (hrw : ∀ p ∈ rws, p.2.length = 10 ∧ ∃ n, s.heap.get? p.1 = some (W.listOf (p.2.map Value.bool).toArray n)) (hz : rws.length ≤ 1000)
    (ret : ∀ h' tk D n, Kp s.heap h' → s.heap.get? D = none → s.heap.objs.size ≤ D → h'.get? D = some (W.listOf ((gateF kd (rws.map (·.2))).map Value.bool).toArray n) → Q (.ref D) { s with heap := h', toks := tk }) :
    wpAny (model prog w) A (call (.ref 240) [.int kd t0, .ref aR]) Q E s := by
  w_on
  refine wpAny_call ?_
  refine' startC (K := Mine.hd.heap_1 w.params) [] [(Str.ofString "kind", .int kd t0), (Str.ofString "rows", .ref aR)] (d := 7) (u := 57) r (fun _ q => q) G hs trivial ?k4 ?k5 ?k7 ?k8 ?k9 ?_ ?c2 ?c3 ?c4
  (case k4 => k_is)
  (case k5 => k_is)
  (case k7 => exact BindsTo.of_eq rfl)
  (case k8 => rfl)
  (case k9 => decide)
  (case c2 => exact rfl)
  (case c3 => exact rfl)
  (case c4 => exact rfl)
  intro A' PQ PE h₁ h₀ L tail mean mg mb tk0 cells rA hQ1 hQ2 hfr Y hcn B F N X TT
  obtain ⟨oR, oK, rfl, hoR, hoK⟩ := CellsAre.two Y
  have hoR' : oR.data = .cell (some (.ref aR)) := hoR
  have hoK' : oK.data = .cell (some (.int kd t0)) := hoK
  simp only [List.cons_append, List.nil_append] at N
  have TR := topRead_of TT
  have kp1 : Kp s.heap h₁ := ((B.fin _ _ _ F N fun q hq => tl (tl hq)).fresh (W' := []) (al2 (.inr (hcn _ (.head _))) (.inr (hcn _ (tl (.head _)))))).kp
  have gR1 := kp1 _ _ hR
  have gCR := N.get (.head _)
  have gCK := N.get (tl (.head _))
  have fCR := hcn _ (.head _)
  have fCK := hcn _ (tl (.head _))
  have zL := ltN F.ns.lt
  w_strict (
  k_steps
  refine compAV (hb := h₁) (cl := [(Str.ofString "rows", L + 1 + 1)]) (by with_unfolding_all rfl) (by with_unfolding_all rfl) rfl (by decide) rfl rfl rfl F.ns ?_
  k_steps
  refine itRange1 (n := 10) rfl (by decide) ?_
  intro h2 I tk2 kp2 z2 z3 it2
  refine CompIs.mk I [I] [I] 10 _ _ (fun _ _ i ys _ => IntsAre ys ((List.range i).map fun k => (2 * gCnt (rws.map (·.2)) k : Int))) (Nx.name (Walks.range (A := A') rA.hh I 0 1 10) _ _) (by rw [sizeLine_eq]; decide) it2 (List.forall_mem_singleton.mpr (Heap.lt_size it2)) kp2 z3 (List.forall_mem_singleton.mpr (Heap.get?_none_of_le z2)) (fun _ _ _ _ => .nil) (fun _ _ _ _ _ _ q _ => q) ?_ ?_
  · intro PT PE D C i v ys m h tk hC hV hcl gD hPT hi hv hR' hys hk hn
    obtain ⟨t, rfl⟩ := hv
    refine asgC (c := C + 1) rfl rfl rfl (hcl (Str.ofString "k", C + 1) (.head _)) fun h4 oI gI hoI kb4 => ?_
    dsimp only
    refine test0 ?_
    rw [if_pos rfl]
    have zC : (h₁.objs.size : Nat) ≤ C := Nat.le_trans z3 hC
    have zC' := neN' (rfl : (C : Nat) = C)
    have nC : ∀ b o, h₁.get? b = some o → (b : Nat) < C := fun b o e => Nat.lt_of_lt_of_le (Heap.lt_size e) zC
    have K4 : Kp h₁ h4 := fun b o e => kb4 b o (nin1 (Nat.ne_of_lt (Nat.lt_succ_of_lt (nC b o e)))) (hk b o e)
    have hn4 := hn.at' fun o e => kb4 C o (nin1 (Nat.ne_of_lt (Nat.lt_succ_self C))) e
    have fI : s.heap.get? (C + 1) = none := Heap.get?_none_of_le (Nat.le_trans (Nat.le_trans B.ls (Nat.le_of_lt F.ns.lt)) (Nat.le_succ_of_le zC))
    have bC : n₀ ≤ C := Nat.le_trans hs (Nat.le_trans B.ls (Nat.le_trans (Nat.le_of_lt F.ns.lt) zC))
    refine rebaseFK [(C + 1, oI), (L + 1 + 1, oR)] G (kp1.trans K4) hn4 bC (al2 ⟨gI, Nat.ne_of_gt (Nat.lt_succ_self C), .inr fI⟩ ⟨K4 _ _ gCR, Nat.ne_of_lt (nC _ _ gCR), .inr fCR⟩) fun h₀9 tail9 F9 N9 off9 lt9 X9 mean9 mg9 mb9 T9 hid9 bk9 => ?_
    simp only [List.cons_append, List.nil_append] at N9 F9
    have TR9 := topRead_of T9
    k_steps
    (rename Fr _ _ _ _ => F9); (rename News _ _ _ _ => N9)
    refine compV (hb := h4) (cl := [(Str.ofString "k", C + 1)]) (by with_unfolding_all rfl) rfl (by decide) ?_
    k_steps
    (rename Fr _ _ _ _ => F9); (rename News _ _ _ _ => N9)
    have gR4 := K4 _ _ gR1
    refine wpAny_pyIter_list (IsL.isList gR4) ?_
    have kpI : Kp h4 (h4.push (liObj aR)) := fun b o e => Heap.get?_push_of_some _ e
    have zaR := Heap.lt_size gR4
    have zI : h4.objs.size < (h4.push (liObj aR)).objs.size := by rw [Heap.size_push]; exact Nat.lt_succ_self _
    refine CompIs.mk h4.objs.size [h4.objs.size, aR] [h4.objs.size] (rws.map fun p => Value.ref p.1).toArray.size _ _ (fun _ _ j ys _ => ys.length = (rws.take j).countP fun p => p.2[i]? == some true) (Nx.name (Walks.list (A := A') rA.hh _ _ (Nat.ne_of_lt zaR) (rws.map fun p => Value.ref p.1).toArray) _ _) (by rw [sizeLine_eq, List.size_toArray, List.length_map]; exact Mine.q34 hz) ⟨⟨_, Heap.get?_push_size _ rfl, rfl, rfl⟩, IsL.isList (kpI _ _ gR4)⟩ (al2 zI (Nat.lt_trans zaR zI)) kpI (Nat.le_of_lt zI) (List.forall_mem_singleton.mpr (Heap.get?_none_of_le (Nat.le_refl _))) (fun _ _ _ _ => rfl) (fun _ _ _ _ _ _ q _ => q) ?_ ?_
    · intro PT2 PE2 D2 C2 j v2 ys2 m2 h5 tk5 hC2 hV2 hcl2 gD2 hPT2 hj hv2 hR2 hys2 hk2 hn2
      obtain ⟨p, hp⟩ : ∃ p, rws[j]? = some p := ⟨_, List.getElem?_eq_getElem (by rw [List.size_toArray, List.length_map] at hj; exact hj)⟩
      obtain rfl : v2 = .ref p.1 := by
        have q : (rws.map fun p => Value.ref p.1).toArray[j]? = some v2 := hv2
        rw [List.getElem?_toArray, List.getElem?_map, hp] at q
        exact (Option.some.inj q).symm
      refine asgL rfl rfl rfl hn2 fun h6 tk6 hn6 kb6 => ?_
      have zC2 : (h4.objs.size : Nat) ≤ C2 := Nat.le_trans (Nat.le_of_lt zI) hC2
      have nC2 : ∀ b o, h4.get? b = some o → (b : Nat) ≠ C2 := fun b o e => Nat.ne_of_lt (Nat.lt_of_lt_of_le (Heap.lt_size e) zC2)
      have K6 : Kp h4 h6 := fun b o e => kb6 b o (nin1 (nC2 b o e)) (hk2 b o e)
      obtain ⟨h10, rn0, gp⟩ := hrw p (List.mem_of_getElem? hp)
      refine rebaseFK [(C + 1, oI)] G ((kp1.trans K4).trans K6) hn6 (Nat.le_trans bC (Nat.le_trans (Nat.le_of_lt hn4.lt) zC2)) (List.forall_mem_singleton.mpr ⟨K6 _ _ gI, nC2 _ _ gI, .inr fI⟩) fun h₀9 tail9 F9 N9 off9 lt9 X9 mean9 mg9 mb9 T9 hid9 bk9 => ?_
      simp only [List.cons_append, List.nil_append] at N9 F9
      have TR9 := topRead_of T9
      refine test1 ?_
      dsimp only
      k_steps
      obtain ⟨b, hb⟩ : ∃ b, p.2[i]? = some b := ⟨_, List.getElem?_eq_getElem (by exact Mine.q117 hi h10)⟩
      refine item_at (IsL.isList (((kp1.trans K4).trans K6) _ _ gp)) i (by exact Mine.q118) (by rw [List.size_toArray, List.length_map]; exact Mine.q112 h10) (by rw [List.getElem?_map, hb]; rfl) ?_
      have ect : (rws.take (j + 1)).countP (fun p => p.2[i]? == some true) = (rws.take j).countP (fun p => p.2[i]? == some true) + if b = true then 1 else 0 := by
        rw [List.take_add_one, hp, List.countP_append]
        show _ + List.countP _ [p] = _
        rw [List.countP_singleton, hb]
        cases b <;> rfl
      cases b
      · k_steps
        exact hPT2 _ _ _ _ (kbCV kb6) hn6 (clsNil rfl) (hR2.trans ect.symm) (Nat.le_succ_of_le hys2)
      · k_steps
        exact hPT2 _ _ _ _ (kbCV kb6) hn6 (clsNil rfl) (by rw [List.length_append, hR2, ect]; rfl) (by rw [List.length_append]; exact Nat.succ_le_succ hys2)
    · intro D2 C2 ys2 h5 tk5 n5 hk2 hD2 zD2 gD2 hR2 hys2 hDC2 zC2 hCn2 h6 sb6
      have K6 : Kp h4 h6 := fun b o e => sb6.extBut b o (Nat.ne_of_lt (Nat.lt_of_lt_of_le (Heap.lt_size e) zC2)) (hk2 b o e)
      obtain ⟨F11, N11⟩ := led_new F9 N9 K6 zD2 (sb6.extBut _ _ hDC2 gD2)
      rw [List.size_toArray, List.length_map] at hys2 hR2
      have hcnt : ys2.length = gCnt (rws.map (·.2)) i := by
        rw [hR2, List.take_of_length_le (Nat.le_refl _)]
        unfold gCnt
        rw [List.countP_map]; rfl
      have hsz : ys2.toArray.size = ys2.length := List.size_toArray
      have hcl : ys2.length ≤ 1000 := by exact Mine.q66 hz hys2
      clear F9 N9
      dsimp only
      k_steps
      refine call_len_list (items := ys2.toArray) (IsL.isList (N11.get (.head _))) (by omega) ?_
      rw [hsz]
      k_steps
      refine hPT _ _ _ _ ((kb4.trans K6.b).more fun a q => by rw [List.mem_singleton.mp q]; exact tl (.head _)) (hn4.keeps K6) (List.forall_mem_singleton.mpr ⟨_, oI, K6 _ _ gI, hoI⟩) ?_ (by rw [List.length_append]; exact Nat.succ_le_succ hys)
      rw [List.range_succ, List.map_append]
      refine hR'.append ?_
      rw [hcnt]
      exact .cons _ _ .nil
  · intro D C ys h' tk n' hk hD zD gD hR' hys hDC zC hCn
    refine ⟨hk, zC, fun h'' tk' hn'' kb'' => ?_⟩
    have K1 : Kp s.heap h'' := kp_new (kp1.trans hk) kb'' (al2 B.lf (Heap.get?_none_of_le (Nat.le_trans (Nat.le_trans B.ls (Nat.le_of_lt F.ns.lt)) zC)))
    have nDL : D ≠ L := Nat.ne_of_gt (Nat.lt_of_lt_of_le F.ns.lt zD)
    have gD' := kb'' _ _ (nin2 nDL hDC) gD
    have nRL := (N _ (.head _)).2.1
    have nKL := (N _ (tl (.head _))).2.1
    have nC : ∀ b o, h₁.get? b = some o → b ≠ C := fun b o e => Nat.ne_of_lt (Nat.lt_of_lt_of_le (Heap.lt_size e) zC)
    have gCR' := kb'' _ _ (nin2 nRL (nC _ _ gCR)) (hk _ _ gCR)
    have gCK' := kb'' _ _ (nin2 nKL (nC _ _ gCK)) (hk _ _ gCK)
    refine rebaseFK [(L + 1 + 1, oR), (L + 1, oK)] G K1 hn'' B.ln (al2 ⟨gCR', nRL, .inr fCR⟩ ⟨gCK', nKL, .inr fCK⟩) fun h₀9 tail9 F9 N9 off9 lt9 X9 mean9 mg9 mb9 T9 hid9 bk9 => ?_
    simp only [List.cons_append, List.nil_append] at N9 F9
    have TR9 := topRead_of T9
    have zL'' := hn''.lt
    clear F N X TT TR
    dsimp only
    k_steps
    refine compV (hb := h'') (cl := [(Str.ofString "rows", L + 1 + 1), (Str.ofString "kind", L + 1)]) (by with_unfolding_all rfl) rfl (by decide) ?_
    k_steps
    refine wpAny_pyIter_list (IsL.isList gD') ?_
    have kpI : Kp h'' (h''.push (liObj D)) := fun b o e => Heap.get?_push_of_some _ e
    have zD' := Heap.lt_size gD'
    have zI : h''.objs.size < (h''.push (liObj D)).objs.size := by rw [Heap.size_push]; exact Nat.lt_succ_self _
    have hyl := hR'.length
    rw [List.length_map, List.length_range] at hyl
    refine CompIs.mk h''.objs.size [h''.objs.size, D] [h''.objs.size] ys.toArray.size _ _ (fun _ _ j zs _ => zs = ((gateF kd (rws.map (·.2))).take j).map Value.bool) (Nx.name (Walks.list (A := A') rA.hh _ _ (Nat.ne_of_lt zD') ys.toArray) _ _) (by rw [sizeLine_eq, List.size_toArray]; exact Mine.q119 hyl) ⟨⟨_, Heap.get?_push_size _ rfl, rfl, rfl⟩, IsL.isList (kpI _ _ gD')⟩ (al2 zI (Nat.lt_trans zD' zI)) kpI (Nat.le_of_lt zI) (List.forall_mem_singleton.mpr (Heap.get?_none_of_le (Nat.le_refl _))) (fun _ _ _ _ => rfl) (fun _ _ _ _ _ _ q _ => q) ?_ ?_
    · intro PT2 PE2 D2 C2 j v2 ys2 m2 h5 tk5 hC2 hV2 hcl2 gD2 hPT2 hj hv2 hR2 hys2 hk2 hn2
      have hj10 : j < 10 := by rw [List.size_toArray] at hj; exact Mine.q120 hyl hj
      obtain ⟨t2, ht2⟩ := hR'.get j _ (by rw [List.getElem?_map, List.getElem?_range hj10]; rfl)
      obtain rfl : v2 = .int (2 * gCnt (rws.map (·.2)) j : Int) t2 := by
        have q : ys.toArray[j]? = some v2 := hv2
        rw [List.getElem?_toArray, ht2] at q
        exact (Option.some.inj q).symm
      refine asgL rfl rfl rfl hn2 fun h6 tk6 hn6 kb6 => ?_
      have zC2 : (h''.objs.size : Nat) ≤ C2 := Nat.le_trans (Nat.le_of_lt zI) hC2
      have nC2 : ∀ b o, h''.get? b = some o → (b : Nat) ≠ C2 := fun b o e => Nat.ne_of_lt (Nat.lt_of_lt_of_le (Heap.lt_size e) zC2)
      have K6 : Kp h'' h6 := fun b o e => kb6 b o (nin1 (nC2 b o e)) (hk2 b o e)
      refine rebaseFK [(L + 1 + 1, oR), (L + 1, oK)] G (K1.trans K6) hn6 (Nat.le_trans B.ln (Nat.le_trans (Nat.le_of_lt zL'') zC2)) (al2 ⟨K6 _ _ gCR', nC2 _ _ gCR', .inr fCR⟩ ⟨K6 _ _ gCK', nC2 _ _ gCK', .inr fCK⟩) fun h₀9 tail9 F9 N9 off9 lt9 X9 mean9 mg9 mb9 T9 hid9 bk9 => ?_
      simp only [List.cons_append, List.nil_append] at N9 F9
      have TR9 := topRead_of T9
      have gR6 := (K1.trans K6) _ _ hR
      have hcb : gCnt (rws.map (·.2)) j ≤ 1000 := by
        have : gCnt (rws.map (·.2)) j ≤ (rws.map (·.2)).length := List.countP_le_length
        rw [List.length_map] at this; exact Mine.q66 hz this
      have fin2 : ∀ tkF b, b = (decide ((2 * gCnt (rws.map (·.2)) j : Int) > (rws.map (·.2)).length) || (decide (kd = 3) && decide ((2 * gCnt (rws.map (·.2)) j : Int) = (rws.map (·.2)).length))) → PT2 (ys2 ++ [.bool b]) { s with heap := h6, toks := tkF } := by
        intro tkF b hb
        refine hPT2 _ _ _ _ (kbCV kb6) hn6 (clsNil rfl) ?_ (by rw [List.length_append]; exact Nat.succ_le_succ hys2)
        have hg : (gateF kd (rws.map (·.2)))[j]? = some b := by
          unfold gateF
          rw [List.getElem?_map, List.getElem?_range hj10, hb]; rfl
        rw [hR2, List.take_add_one, hg, List.map_append]; rfl
      have hrl : (rws.map (·.2)).length = rws.length := List.length_map ..
      rw [hrl] at fin2
      refine test0 ?_
      rw [if_pos rfl]
      dsimp only
      k_steps
      refine call_len_list (IsL.isList gR6) (by rw [List.size_toArray, List.length_map]; omega) ?_
      rw [List.size_toArray, List.length_map]
      k_steps
      · rename_i hgt
        exact fin2 _ _ (by rw [decide_eq_true hgt]; rfl)
      · rename_i hgt hk3
        refine call_len_list (IsL.isList gR6) (by rw [List.size_toArray, List.length_map]; omega) ?_
        rw [List.size_toArray, List.length_map]
        k_steps
        exact fin2 _ _ (by rw [decide_eq_false hgt, decide_eq_true hk3]; rfl)
      · rename_i hgt hk3
        exact fin2 _ _ (by rw [decide_eq_false hgt, decide_eq_false hk3, beq_eq_false_iff_ne.mpr hk3]; rfl)
    · intro D2 C2 ys2 h5 tk5 n5 hk2 hD2 zD2 gD2 hR2 hys2 hDC2 zC2 hCn2 h6 sb6
      have K6 : Kp h'' h6 := fun b o e => sb6.extBut b o (Nat.ne_of_lt (Nat.lt_of_lt_of_le (Heap.lt_size e) zC2)) (hk2 b o e)
      rw [List.size_toArray, hyl, List.take_of_length_le (by unfold gateF; rw [List.length_map, List.length_range]; exact Nat.le_refl _)] at hR2
      subst hR2
      exact hQ1 _ _ (ret _ _ D2 _ (K1.trans K6) (Heap.get?_none_of_le (Nat.le_trans (Nat.le_trans B.ls (Nat.le_of_lt zL'')) zD2)) (Nat.le_trans (Nat.le_trans B.ls (Nat.le_of_lt zL'')) zD2) (sb6.extBut _ _ hDC2 gD2)))
end Mine
end
section
open PySem PySem.W PyProof.Rows PySem.Calls PySem.Spec
set_option Elab.async false
set_option maxRecDepth 100000
set_option maxHeartbeats 4000000
namespace Mine
/-- one iterator under a zip -/
structure Src where
  it : Addr
  fp : List Addr
  P : Nat → Value → Prop
  St : Nat → Heap → Prop
noncomputable abbrev IsZ (h : Heap) (z TI TO : Addr) (f0 f1 : Value) : Prop := h.get? z = some { cls := .type "zip", dict := none, data := .fields #[f0, f1, .bool false, .ref TI, .ref TO], slots := #[] }
noncomputable abbrev its (qs : List Src) : List Value := qs.map fun q => .ref q.it
structure ZOk (prog : Program) (w : World) (A : Around) (z TI TO : Addr) (n : Nat) (qs : List Src) : Prop where
  dr : ∀ q ∈ qs, Draws prog w A q.it q.fp n q.P q.St
  own : ∀ q ∈ qs, q.it ∈ q.fp
  ap : qs.Pairwise fun a b => a.it ∉ b.fp ∧ b.it ∉ a.fp
  off : ∀ q ∈ qs, z ∉ q.fp ∧ TO ∉ q.fp ∧ TI ≠ q.it
  ne : TI ≠ z ∧ TO ≠ z ∧ TI ≠ TO
  len : qs.length ≤ 1000
structure ZSt (z TI TO : Addr) (qs : List Src) (f0 : Value) (i : Nat) (h : Heap) : Prop where
  z : ∃ f1, IsZ h z TI TO f0 f1
  ti : h.IsTuple TI (its qs).toArray
  to : ∃ xs : List Value, h.get? TO = some { cls := .type "tuple", data := .seq xs.toArray } ∧ xs.length = qs.length
  st : ∀ q ∈ qs, q.St i h
noncomputable abbrev zW (z TO : Addr) (qs : List Src) : List Addr := z :: TO :: qs.map (·.it)
section
variable {prog : Program} {w : World} {A : Around} {E : Value → Shared → Prop} {s : Shared} {z TI TO : Addr} {n i : Nat} {qs : List Src} {f0 : Value}
theorem otFree {f1 : Value} {Q : Bool → Shared → Prop} (hz : IsZ s.heap z TI TO f0 f1) (hf : f0 = .none ∨ ∃ T : Addr, f0 = rawInt T) (h1 : Q true s) (h2 : ∀ h' f1' (T : Addr), f0 = rawInt T → IsZ h' z TI TO f0 f1' → Heap.SameBut z s.heap h' → Q false { s with heap := h' }) :
    wpAny (model prog w) A (Builtin.SmallTypes.ownedTupleIsFree (.ref z)) Q E s := by
  unfold Builtin.SmallTypes.ownedTupleIsFree
  refine wpAny_bind (wpAny_field hz rfl (x := f0) rfl ?_)
  rcases hf with rfl | ⟨T, rfl⟩
  · exact wpAny_pure h1
  · dsimp only [rawInt]
    refine wpAny_bind (m := loadIfAlive _) (Q := _) (fun Γ p hΓ => ?_)
    rw [loadIfAlive, Sem.wp_loadIfAlive]
    revert Γ p
    show wpAny _ _ (.pure _) _ _ _
    refine wpAny_pure ?_
    cases s.heap.get? (Int.toNat T) with
    | none => exact wpAny_pure h1
    | some o =>
      show wpAny _ _ (field (.ref z) 1 >>= _) _ _ _
      refine wpAny_bind (wpAny_field hz rfl (x := f1) rfl ?_)
      split
      · exact wpAny_bind (wpAny_setField_rec hz (by simp) fun h' hz' hs' => wpAny_pure (h2 h' _ T rfl hz' hs'))
      · exact wpAny_pure (h2 _ f1 T rfl hz ⟨rfl, fun _ _ => rfl⟩)

inductive F2 (i : Nat) : List Src → List Value → Prop
  | nil : F2 i [] []
  | cons {q : Src} {v : Value} {qs : List Src} {vs : List Value} (h : q.P i v) (r : F2 i qs vs) : F2 i (q :: qs) (v :: vs)
theorem F2.snoc {q : Src} {v : Value} (h : q.P i v) : ∀ {qs : List Src} {vs : List Value}, F2 i qs vs → F2 i (qs ++ [q]) (vs ++ [v])
  | _, _, .nil => .cons h .nil
  | _, _, .cons a r => .cons a (r.snoc h)
theorem F2.len : ∀ {qs : List Src} {vs : List Value}, F2 i qs vs → vs.length = qs.length
  | _, _, .nil => rfl
  | _, _, .cons _ r => congrArg (· + 1) r.len
/-- in the midst of a zip's turn -/
structure ZMid (s : Shared) (z TI TO : Addr) (qs pre post : List Src) (vs : List Value) (i : Nat) (h : Heap) : Prop where
  eq : qs = pre ++ post
  vs : F2 i pre vs
  a : ∀ q ∈ pre, q.St (i + 1) h
  b : ∀ q ∈ post, q.St i h
  k : KpB (zW z TO qs) s.heap h
theorem ZMid.step (D : ZOk prog w A z TI TO n qs) {q : Src} {pre post : List Src} {vs : List Value} {h h' : Heap} {x : Value} (M : ZMid s z TI TO qs pre (q :: post) vs i h) (hx : q.P i x) (st : q.St (i + 1) h') (hs : Heap.SameBut q.it h h') : ZMid s z TI TO qs (pre ++ [q]) post (vs ++ [x]) i h' := by
  obtain ⟨rfl, v, a, b, k⟩ := M
  have hq : q ∈ pre ++ q :: post := by simp
  have ap := List.pairwise_append.mp D.ap
  refine ⟨by simp, v.snoc hx, fun p hp => ?_, fun p hp => ?_, fun b o hb e => hs.extBut b o (fun c => hb (c ▸ tl (tl (List.mem_map_of_mem hq)))) (k b o hb e)⟩
  · rcases List.mem_append.mp hp with e | e
    · exact (D.dr p (by simp [e])).frame _ _ _ (a p e) fun b hb o g => hs.extBut b o (fun c => (ap.2.2 p e q (.head _)).2 (c ▸ hb)) g
    · rw [List.mem_singleton.mp e]; exact st
  · exact (D.dr p (by simp [hp])).frame _ _ _ (b p (.tail _ hp)) fun b hb o g => hs.extBut b o (fun c => ((List.pairwise_cons.mp ap.2.1).1 p hp).1 (c ▸ hb)) g
theorem ZMid.at {pre post : List Src} (D : ZOk prog w A z TI TO n qs) {vs : List Value} {h h' : Heap} (M : ZMid s z TI TO qs pre post vs i h) (W : List Addr) (hW : ∀ b ∈ W, b = z ∨ b = TO) (k : KpB W h h') : ZMid s z TI TO qs pre post vs i h' := by
  obtain ⟨rfl, v, a, b, k1⟩ := M
  have nf : ∀ q ∈ pre ++ post, ∀ b ∈ q.fp, b ∉ W := fun q hq b hb c => by
    rcases hW b c with e | e
    · exact (D.off q hq).1 (e ▸ hb)
    · exact (D.off q hq).2.1 (e ▸ hb)
  exact ⟨rfl, v, fun p hp => (D.dr p (by simp [hp])).frame _ _ _ (a p hp) fun b hb o g => k b o (nf p (by simp [hp]) b hb) g, fun p hp => (D.dr p (by simp [hp])).frame _ _ _ (b p hp) fun b hb o g => k b o (nf p (by simp [hp]) b hb) g,
    fun b o hb e => k b o (fun c => by rcases hW b c with q | q <;> exact hb (by simp [q])) (k1 b o hb e)⟩
theorem zTI (D : ZOk prog w A z TI TO n qs) : TI ∉ zW z TO qs := fun h => by
  rcases List.mem_cons.mp h with e | h
  · exact D.ne.1 e
  · rcases List.mem_cons.mp h with e | h
    · exact D.ne.2.2 e
    · obtain ⟨q, hq, e⟩ := List.mem_map.mp h
      exact (D.off q hq).2.2 e.symm
theorem zNo {h : Heap} (D : ZOk prog w A z TI TO n qs) (hl : ∀ q ∈ qs, ∃ o, h.get? q.it = some o) (h1 : ∃ o, h.get? z = some o) (h2 : ∃ o, h.get? TO = some o) : h.objs.size ∉ zW z TO qs := fun hm => by
  have no : ∀ b : Addr, (∃ o, h.get? b = some o) → h.objs.size ≠ b := fun b ⟨o, e⟩ => Nat.ne_of_gt (Heap.lt_size e)
  rcases List.mem_cons.mp hm with e | hm
  · exact no _ h1 e
  · rcases List.mem_cons.mp hm with e | hm
    · exact no _ h2 e
    · obtain ⟨q, hq, e⟩ := List.mem_map.mp hm
      exact no _ (hl q hq) e.symm
theorem zipItem {Q : Value → Shared → Prop} (D : ZOk prog w A z TI TO n qs) (hf : f0 = .none ∨ ∃ T : Addr, f0 = rawInt T) (hne : qs ≠ []) (hi : i < n) (S : ZSt z TI TO qs f0 i s.heap)
    (hQ : ∀ h' tk (T : Addr) (vs : List Value) f0', (f0 = .none → f0' = rawInt T) → (∃ T' : Addr, f0' = rawInt T') → ZSt z TI TO qs f0' (i + 1) h' → T ∉ zW z TO qs → z < T → h'.get? T = some (tupOf vs) → F2 i qs vs → KpB (zW z TO qs) s.heap h' → Q (.ref T) { s with heap := h', toks := tk }) :
    wpAny (model prog w) A (Builtin.«zip.__next__» ⟨[.ref z], []⟩) (fun fin s' => ∃ v, fin = .done (.ret v) ∧ Q v s') E s := by
  obtain ⟨⟨f1, hz⟩, hTI, ⟨xs, hTO, hxl⟩, st⟩ := S
  show wpAny _ _ (field (.ref z) 2 >>= _) _ _ _
  refine wpAny_bind (wpAny_field hz rfl (x := .bool false) rfl ?_)
  show wpAny _ _ (field (.ref z) 3 >>= _) _ _ _
  refine wpAny_bind (wpAny_field hz rfl (x := .ref TI) rfl ?_)
  obtain ⟨oI, hoI, _, nI, hdI⟩ := id hTI
  refine wpAny_bind (wpAny_seqItems hoI hdI ?_)
  dsimp only
  rw [if_neg (by cases qs with | nil => exact absurd rfl hne | cons => simp)]
  show wpAny _ _ (Builtin.SmallTypes.ownedTupleIsFree (.ref z) >>= _) _ _ _
  refine wpAny_bind (otFree hz hf ?_ fun h₁ f1' T0 hT0 hz₁ hs₁ => ?_)
  · rw [if_pos rfl]
    refine wpAny_bind (wpAny_rule ?_)
    refine wpAny_bind (wpAny_field hz rfl (x := .ref TO) rfl ?_)
    refine wpAny_bind (wpAny_setField_rec hz (by simp) fun h₁ hz₁ hs₁ => ?_)
    have hz₁' : IsZ h₁ z TI TO .ellipsis f1 := hz₁
    refine wpAny_bind ?_
    refine wpAny_forIn_list _ (fun rest b s' => ∃ (pre post : List Src) (vs junk : List Value) (h : Heap) (tk : Tok), rest = (its post).zipIdx pre.length ∧ b = (none, ()) ∧ s' = { s with heap := h, toks := tk } ∧ ZMid s z TI TO qs pre post vs i h ∧
      IsZ h z TI TO .ellipsis f1 ∧ h.get? TO = some { cls := .type "tuple", data := .seq (vs ++ junk).toArray } ∧ junk.length = post.length) _ ?_ ?_ _ _ ?_
    · rintro x rest b s' ⟨pre, post, vs, junk, h, tk, e, rfl, rfl, M, hz', hT, hj⟩
      cases post with
      | nil => cases e
      | cons q post =>
        obtain ⟨rfl, rfl⟩ := List.cons.inj e
        obtain ⟨j, junk, rfl⟩ : ∃ j r, junk = j :: r := by
          cases junk with
          | nil => cases hj
          | cons j r => exact ⟨j, r, rfl⟩
        have hq : q ∈ qs := by rw [M.eq]; simp
        have of := D.off q hq
        have hzq : z ≠ q.it := fun c => of.1 (c ▸ D.own q hq)
        have hTq : TO ≠ q.it := fun c => of.2.1 (c ▸ D.own q hq)
        refine wpAny_bind (wpAny_onRaise ?_)
        show wpAny _ _ (Builtin.SmallTypes.nextOf (.ref q.it) >>= _) _ _ _
        refine wpAny_bind ((D.dr q hq).item i _ _ _ hi (M.b q (.head _)) fun x h' tk' hx hst hs => wpAny_pure ?_)
        have hT' := hs.extBut _ _ hTq hT
        dsimp only
        refine wpAny_bind (wpAny_seqItems hT' rfl ?_)
        have l1 := F2.len M.vs
        have l2 := congrArg List.length M.eq
        have l3 := D.len
        simp only [List.length_append, List.length_cons] at l2 hj
        refine wpAny_bind (wpAny_updateSeq hT' rfl ?_ ?_ ?_)
        · refine wpAny_bind (wpAny_letGo (wpAny_pure ?_))
          have sb := Heap.SameBut.update h' TO (Obj.mapSeq fun x_2 => x_2.setIfInBounds pre.length x)
          refine ⟨pre ++ [q], post, vs ++ [x], junk, _, _, ?_, rfl, rfl, (M.step D hx hst hs).at D [TO] (fun b hb => .inr (List.mem_singleton.mp hb)) fun b o hb e => sb.extBut b o (fun c => hb (c ▸ .head _)) e, sb.extBut _ _ D.ne.2.1.symm (hs.extBut _ _ hzq hz'), ?_, by exact Mine.q121 hj⟩
          · rw [List.length_append]; rfl
          · rw [Heap.get?_update_self _ hT' rfl]
            simp [Obj.mapSeq, ← l1]
        · rw [List.size_toArray, sizeLine_eq, List.length_append, List.length_cons]; exact Mine.q122 hj l1 l3 l2
        · rw [Array.size_setIfInBounds, List.size_toArray, sizeLine_eq, List.length_append, List.length_cons]; exact Mine.q123 hj l1 l3 l2
    · rintro b s' ⟨pre, post, vs, junk, h, tk, e, rfl, rfl, M, hz', hT, hj⟩
      cases post with
      | cons q post => cases e
      | nil =>
        obtain rfl := List.eq_nil_of_length_eq_zero hj
        have me := M.eq
        rw [List.append_nil] at hT me
        subst me
        have l1 := F2.len M.vs
        have l3 := D.len
        dsimp only
        refine wpAny_bind (wpAny_seqItems hT rfl ?_)
        refine wpAny_bind (wpAny_newTuple ?_ (by rw [sizeLine_eq]; show vs.toArray.toList.length ≤ _; simp; exact Mine.q124 l1 l3))
        refine wpAny_bind ?_
        unfold Builtin.SmallTypes.ownedTupleHandOut
        have up : ∀ b o, h.get? b = some o → (h.push { cls := .type "tuple", data := .seq vs.toArray.toList.toArray }).get? b = some o := fun b o e => Heap.get?_push_of_some _ e
        refine wpAny_bind (wpAny_setField_rec (up _ _ hz') (by simp) fun h₇ hz₇ hs₇ => ?_)
        refine wpAny_setField_rec hz₇ (by simp) fun h₈ hz₈ hs₈ => wpAny_pure ⟨_, rfl, ?_⟩
        have kz : KpB [z] h h₈ := fun b o hb e => hs₈.extBut b o (fun c => hb (c ▸ .head _)) (hs₇.extBut b o (fun c => hb (c ▸ .head _)) (up b o e))
        have M' := M.at D [z] (fun b hb => .inl (List.mem_singleton.mp hb)) kz
        have nz : ∀ b o, h.get? b = some o → b ≠ h.objs.size := fun b o e => Nat.ne_of_lt (Heap.lt_size e)
        refine hQ h₈ tk h.objs.size vs _ (fun _ => rfl) ⟨_, rfl⟩ ⟨⟨_, hz₈⟩, hTI.at fun o e => M'.k _ o ?_ e, ⟨vs, kz _ _ (nin1 D.ne.2.1) hT, l1⟩, M'.a⟩ ?_ (Heap.lt_size hz') (hs₈.extBut _ _ (nz _ _ hz').symm (hs₇.extBut _ _ (nz _ _ hz').symm (Heap.get?_push_size _ rfl))) M.vs M'.k
        · exact zTI D
        · exact zNo D (fun q hq => (D.dr q hq).live _ _ (M.a q hq)) ⟨_, hz'⟩ ⟨_, hT⟩
    · exact ⟨[], qs, [], xs, h₁, s.toks, rfl, rfl, rfl, ⟨rfl, .nil, fun _ h => absurd h List.not_mem_nil, fun q hq => (D.dr q hq).frame _ _ _ (st q hq) fun b hb o e => hs₁.extBut b o (fun c => (D.off q hq).1 (c ▸ hb)) e, fun b o hb e => hs₁.extBut b o (fun c => hb (c ▸ .head _)) e⟩, hz₁', hs₁.extBut _ _ D.ne.2.1 hTO, hxl⟩
  · rw [if_neg Bool.false_ne_true]
    subst hT0
    refine wpAny_bind ?_
    refine wpAny_forIn_array' _ (fun rest b s' => ∃ (pre post : List Src) (vs : List Value) (h : Heap) (tk : Tok), rest = its post ∧ b = (none, vs.toArray) ∧ s' = { s with heap := h, toks := tk } ∧ ZMid s z TI TO qs pre post vs i h ∧
      IsZ h z TI TO (rawInt T0) f1' ∧ h.get? TO = some { cls := .type "tuple", data := .seq xs.toArray }) _ ?_ ?_ _ _ ?_
    · rintro x rest b s' ⟨pre, post, vs, h, tk, e, rfl, rfl, M, hz', hT⟩
      cases post with
      | nil => cases e
      | cons q post =>
        obtain ⟨rfl, rfl⟩ := List.cons.inj e
        have hq : q ∈ qs := by rw [M.eq]; simp
        have of := D.off q hq
        have hzq : z ≠ q.it := fun c => of.1 (c ▸ D.own q hq)
        have hTq : TO ≠ q.it := fun c => of.2.1 (c ▸ D.own q hq)
        refine wpAny_bind (wpAny_holding ?_)
        show wpAny _ _ (Builtin.SmallTypes.nextOf (.ref q.it) >>= _) _ _ _
        refine wpAny_bind ((D.dr q hq).item i _ _ _ hi (M.b q (.head _)) fun x h' tk' hx hst hs => wpAny_pure (wpAny_pure ?_))
        exact ⟨pre ++ [q], post, vs ++ [x], _, _, rfl, by simp, rfl, M.step D hx hst hs, hs.extBut _ _ hzq hz', hs.extBut _ _ hTq hT⟩
    · rintro b s' ⟨pre, post, vs, h, tk, e, rfl, rfl, M, hz', hT⟩
      cases post with
      | cons q post => cases e
      | nil =>
        have me := M.eq
        rw [List.append_nil] at me
        subst me
        have l1 := F2.len M.vs
        have l3 := D.len
        dsimp only
        refine wpAny_bind (wpAny_newTuple (wpAny_pure ⟨_, rfl, ?_⟩) (by rw [sizeLine_eq]; show vs.toArray.toList.length ≤ _; simp; exact Mine.q124 l1 l3))
        have M' := M.at D [] (fun b hb => absurd hb List.not_mem_nil) (h' := h.push { cls := .type "tuple", data := .seq vs.toArray.toList.toArray }) fun b o _ e => Heap.get?_push_of_some _ e
        exact hQ _ tk h.objs.size vs _ (fun c => by cases c) ⟨_, rfl⟩ ⟨⟨_, Heap.get?_push_of_some _ hz'⟩, hTI.at fun o e => M'.k _ o (zTI D) e, ⟨xs, Heap.get?_push_of_some _ hT, hxl⟩, M'.a⟩ (zNo D (fun q hq => (D.dr q hq).live _ _ (M.a q hq)) ⟨_, hz'⟩ ⟨_, hT⟩)
          (Heap.lt_size hz') (Heap.get?_push_size _ rfl) M.vs M'.k
    · exact ⟨[], qs, [], h₁, s.toks, rfl, rfl, rfl, ⟨rfl, .nil, fun _ h => absurd h List.not_mem_nil, fun q hq => (D.dr q hq).frame _ _ _ (st q hq) fun b hb o e => hs₁.extBut b o (fun c => (D.off q hq).1 (c ▸ hb)) e, fun b o hb e => hs₁.extBut b o (fun c => hb (c ▸ .head _)) e⟩, hz₁, hs₁.extBut _ _ D.ne.2.1 hTO⟩
theorem zipDone {Q : PySem.Fin → Shared → Prop} (hh : A.handled = none) (D : ZOk prog w A z TI TO n qs) (hf : f0 = .none ∨ ∃ T : Addr, f0 = rawInt T) (hn : qs = [] ∨ i = n) (S : ZSt z TI TO qs f0 i s.heap)
    (hE : ∀ h' e, KpB (zW z TO qs) s.heap h' → (∃ o, h'.get? e = some o ∧ o.cls = .type "StopIteration") → E (.ref e) { s with heap := h' }) :
    wpAny (model prog w) A (Builtin.«zip.__next__» ⟨[.ref z], []⟩) Q E s := by
  obtain ⟨⟨f1, hz⟩, hTI, ⟨xs, hTO, hxl⟩, st⟩ := S
  show wpAny _ _ (field (.ref z) 2 >>= _) _ _ _
  refine wpAny_bind (wpAny_field hz rfl (x := .bool false) rfl ?_)
  show wpAny _ _ (field (.ref z) 3 >>= _) _ _ _
  refine wpAny_bind (wpAny_field hz rfl (x := .ref TI) rfl ?_)
  obtain ⟨oI, hoI, _, nI, hdI⟩ := id hTI
  refine wpAny_bind (wpAny_seqItems hoI hdI ?_)
  dsimp only
  cases qs with
  | nil =>
    rw [if_pos (show (its []).toArray.isEmpty = true from rfl)]
    refine wpAny_bind (wpAny_rule (wpAny_bind ?_))
    show wpAny _ _ (newExc (.type "StopIteration") [] >>= _) _ _ _
    refine wpAny_bind ?_
    simp only [newExc, newTuple]
    refine wpAny_bind (wpAny_newObj_type ?_ (by size_fits))
    refine wpAny_bind (m := firstArgMember _ _) (wpAny_of_eq (a := Value.none) (by first | rfl | (simp only [firstArgMember]; rfl)) ?_)
    refine wpAny_newObj_type ?_ (by size_fits)
    simp only [raiseNew]
    refine wpAny_bind (wpAny_handled ?_)
    rw [hh]
    refine wpAny_bind (wpAny_pure (wpAny_throw ?_))
    exact hE _ _ (fun b o _ e => Heap.get?_push_of_some _ (Heap.get?_push_of_some _ e)) ⟨_, Heap.get?_push_size _ rfl, rfl⟩
  | cons q r =>
    obtain rfl : i = n := hn.resolve_left (by simp)
    rw [if_neg (by simp)]
    have hq : q ∈ q :: r := .head _
    have of := D.off q hq
    have hzq : z ≠ q.it := fun c => of.1 (c ▸ D.own q hq)
    have mz : z ∈ zW z TO (q :: r) := .head _
    have mq : q.it ∈ zW z TO (q :: r) := tl (tl (.head _))
    have fr : ∀ h₁, Heap.SameBut z s.heap h₁ → q.St i h₁ := fun h₁ hs₁ => (D.dr q hq).frame _ _ _ (st q hq) fun b hb o e => hs₁.extBut b o (fun c => of.1 (c ▸ hb)) e
    refine wpAny_bind (otFree hz hf ?_ fun h₁ f1' T0 hT0 hz₁ hs₁ => ?_)
    · rw [if_pos rfl]
      refine wpAny_bind (wpAny_rule ?_)
      refine wpAny_bind (wpAny_field hz rfl (x := .ref TO) rfl ?_)
      refine wpAny_bind (wpAny_setField_rec hz (by simp) fun h₁ hz₁ hs₁ => ?_)
      simp only [its, List.map_cons, List.zipIdx_cons, List.forIn_cons]
      refine wpAny_bind (wpAny_bind (wpAny_bind (wpAny_onRaise ?_)))
      show wpAny _ _ (Builtin.SmallTypes.nextOf (.ref q.it) >>= _) _ _ _
      refine wpAny_bind ((D.dr q hq).done _ _ _ (fr _ hs₁) fun h₂ e hs₂ he => ?_)
      obtain ⟨oe, hoe, hce⟩ := he
      have hz₂ := hs₂ _ _ hzq hz₁
      have hez : e ≠ z := fun x => by subst x; rw [hz₂] at hoe; cases hoe; simp at hce
      refine wpAny_setField_rec hz₂ (by simp) fun h₃ _ hs₃ => hE h₃ e (fun c o hc x => hs₃.extBut _ _ (fun y => hc (y ▸ mz)) (hs₂ _ _ (fun y => hc (y ▸ mq)) (hs₁.extBut _ _ (fun y => hc (y ▸ mz)) x))) ⟨oe, hs₃.extBut _ _ hez hoe, hce⟩
    · rw [if_neg Bool.false_ne_true]
      simp only [its, List.map_cons, List.forIn_toArray, List.forIn_cons]
      refine wpAny_bind (wpAny_bind (wpAny_bind (wpAny_holding ?_)))
      show wpAny _ _ (Builtin.SmallTypes.nextOf (.ref q.it) >>= _) _ _ _
      refine wpAny_bind ((D.dr q hq).done _ _ _ (fr _ hs₁) fun h₂ e hs₂ he => ?_)
      exact hE h₂ e (fun c o hc x => hs₂ _ _ (fun y => hc (y ▸ mq)) (hs₁.extBut _ _ (fun y => hc (y ▸ mz)) x)) he
/-- the state of a zip whose tuple may be out -/
noncomputable def zFp (z TI TO : Addr) (qs : List Src) : List Addr := z :: TI :: TO :: (qs.map (·.fp)).flatten
theorem ZSt.frame {h h' : Heap} (D : ZOk prog w A z TI TO n qs) (S : ZSt z TI TO qs f0 i h) (hk : ∀ b ∈ zFp z TI TO qs, ∀ o, h.get? b = some o → h'.get? b = some o) : ZSt z TI TO qs f0 i h' := by
  obtain ⟨⟨f1, hz⟩, hTI, ⟨xs, hTO, hxl⟩, st⟩ := S
  exact ⟨⟨f1, hk _ (.head _) _ hz⟩, hTI.at fun o e => hk _ (tl (.head _)) o e, ⟨xs, hk _ (tl (tl (.head _))) _ hTO, hxl⟩, fun q hq => (D.dr q hq).frame _ _ _ (st q hq) fun b hb o e => hk b (tl (tl (tl (List.mem_flatten.mpr ⟨_, List.mem_map_of_mem hq, hb⟩)))) o e⟩
theorem zSub (D : ZOk prog w A z TI TO n qs) : ∀ b ∈ zW z TO qs, b ∈ zFp z TI TO qs := fun b hb => by
  rcases List.mem_cons.mp hb with e | hb
  · exact e ▸ .head _
  · rcases List.mem_cons.mp hb with e | hb
    · exact e ▸ tl (tl (.head _))
    · obtain ⟨q, hq, e⟩ := List.mem_map.mp hb
      exact tl (tl (tl (List.mem_flatten.mpr ⟨_, List.mem_map_of_mem hq, e ▸ D.own q hq⟩)))
theorem zNext {Q : Option Value → Shared → Prop} (D : ZOk prog w A.in1 z TI TO n qs) (hf : f0 = .none ∨ ∃ T : Addr, f0 = rawInt T) (hne : qs ≠ []) (hi : i < n) (S : ZSt z TI TO qs f0 i s.heap)
    (hQ : ∀ h' tk (T : Addr) (vs : List Value) f0', (f0 = .none → f0' = rawInt T) → (∃ T' : Addr, f0' = rawInt T') → ZSt z TI TO qs f0' (i + 1) h' → T ∉ zW z TO qs → z < T → h'.get? T = some (tupOf vs) → F2 i qs vs → KpB (zW z TO qs) s.heap h' → Q (some (.ref T)) { s with heap := h', toks := tk }) :
    wpAny (model prog w) A (pyNext (.ref z)) Q E s := by
  obtain ⟨f1, hz⟩ := S.z
  have hT : s.TypeIs (.ref z) "zip" := ⟨_, hz, rfl⟩
  unfold pyNext
  exact wpAny_bind (wpAny_attempt (wpAny_callSpecial?_slot (name := Str.ofString "__next__") hT F.slot_zip_next
    (wpAny_call_entry F.slot_zip_next hT F.entry_zip_next
      (zipItem D hf hne hi S fun h' tk T vs f0' a b c d e f g k => wpAny_pure (hQ h' tk T vs f0' a b c d e f g k)) (F.args_zip_next_1 _))))
theorem zEnd {Q : Option Value → Shared → Prop} (hh : A.handled = none) (D : ZOk prog w A.in1 z TI TO n qs) (hf : f0 = .none ∨ ∃ T : Addr, f0 = rawInt T) (hn : qs = [] ∨ i = n) (S : ZSt z TI TO qs f0 i s.heap)
    (hQ : ∀ h', KpB (zW z TO qs) s.heap h' → Q none { s with heap := h' }) : wpAny (model prog w) A (pyNext (.ref z)) Q E s := by
  obtain ⟨f1, hz⟩ := S.z
  have hT : s.TypeIs (.ref z) "zip" := ⟨_, hz, rfl⟩
  unfold pyNext
  refine wpAny_bind (wpAny_attempt (wpAny_callSpecial?_slot (name := Str.ofString "__next__") hT F.slot_zip_next
    (wpAny_call_entry F.slot_zip_next hT F.entry_zip_next (zipDone hh D hf hn S fun h' e hk he => ?_) (F.args_zip_next_1 _))))
  obtain ⟨o, ho, hc⟩ := he
  refine wpAny_bind (wpAny_isInstance (T := "StopIteration") (b := true) ⟨o, ho, hc⟩ isSubtype_stop ?_)
  exact wpAny_pure (hQ _ hk)
theorem zSelf {Q : Value → Shared → Prop} (S : ZSt z TI TO qs f0 i s.heap) (h : Q (.ref z) s) : wpAny (model prog w) A (pyIter (.ref z)) Q E s := by
  obtain ⟨f1, hz⟩ := S.z
  have hT : s.TypeIs (.ref z) "zip" := ⟨_, hz, rfl⟩
  refine wpAny_pyIter_slot hT F.slot_zip_iter (wpAny_call_entry F.slot_zip_iter hT F.entry_zip_iter ?_ (F.args_zip_iter_1 _))
  show wpAny _ _ (ret (.ref z)) _ _ s
  exact wpAny_pure ⟨_, rfl, "zip", _, hT, F.slot_zip_next.lookup, h⟩
theorem zGo {elts : List PySem.Expr} {k : Nat} {pos : Pos} {T : Addr} {Q : Unit → Shared → Prop} (D : ZOk prog w A z TI TO n qs) (S : ZSt z TI TO qs (rawInt T) i s.heap) (hQ : ∀ h', ZSt z TI TO qs .none i h' → KpB (zW z TO qs) s.heap h' → Q () { s with heap := h' }) :
    wpAny (model prog w) A (letOwnedTupleGo (.Tuple elts k pos) (.ref z) (.ref T)) Q E s := by
  obtain ⟨⟨f1, hz⟩, hTI, ⟨xs, hTO, hxl⟩, st⟩ := S
  unfold letOwnedTupleGo
  refine wpAny_bind (wpAny_load hz ?_)
  dsimp only
  rw [if_pos (by simp)]
  refine wpAny_bind (wpAny_rule ?_)
  show wpAny _ _ (setField (.ref z) 0 .none) Q E s
  refine wpAny_setField_rec hz (by simp) fun h' hz' hs' => hQ h' ⟨⟨f1, hz'⟩, hTI.extBut hs'.extBut D.ne.1, ⟨xs, hs'.extBut _ _ D.ne.2.1 hTO, hxl⟩, fun q hq => (D.dr q hq).frame _ _ _ (st q hq) fun b hb o e => hs'.extBut b o (fun c => (D.off q hq).1 (c ▸ hb)) e⟩ fun b o hb e => hs'.extBut b o (fun c => hb (c ▸ .head _)) e
end
section
variable {prog : Program} {w : World} {A : Around} {z TI TO : Addr} {n : Nat} {qs : List Src}
theorem zName (hh : A.handled = none) (D : ZOk prog w A z TI TO n qs) (D' : ZOk prog w A.in1 z TI TO n qs) (hn : qs = [] → n = 0) (x : Str) (px : Pos) :
    Nx prog w A (.Name x px) z (zFp z TI TO qs) (zW z TO qs) n (fun i v h => ∃ (T : Addr) (vs : List Value), v = .ref T ∧ z < T ∧ h.get? T = some (tupOf vs) ∧ F2 i qs vs) (fun i h => ∃ f0, (f0 = .none ∨ ∃ T : Addr, f0 = rawInt T) ∧ ZSt z TI TO qs f0 i h) :=
  ⟨zSub D, fun i h h' ⟨f0, a, S⟩ hk => ⟨f0, a, S.frame D hk⟩, fun i s Q R E hi ⟨f0, a, S⟩ hQ => zNext D' a (fun c => by rw [hn c] at hi; exact absurd hi (Nat.not_lt_zero _)) hi S fun h' tk T vs f0' b c d e l f g k => wpAny_pure (hQ _ h' tk ⟨T, vs, rfl, l, f, g⟩ ⟨f0', .inr c, d⟩ k),
    fun s Q E ⟨f0, a, S⟩ hQ => zEnd hh D' a (.inr rfl) S fun h' k => hQ h' s.toks k, fun i s Q E ⟨_, _, S⟩ hQ => zSelf S hQ⟩
theorem zPair (hh : A.handled = none) (D : ZOk prog w A z TI TO n qs) (D' : ZOk prog w A.in1 z TI TO n qs) (hn : qs ≠ []) (elts : List PySem.Expr) (k : Nat) (pt : Pos) :
    Nx prog w A (.Tuple elts k pt) z (zFp z TI TO qs) (zW z TO qs) n (fun i v h => ∃ (T : Addr) (vs : List Value), v = .ref T ∧ z < T ∧ h.get? T = some (tupOf vs) ∧ F2 i qs vs) (fun i h => ZSt z TI TO qs .none i h) :=
  ⟨zSub D, fun i h h' S hk => S.frame D hk, fun i s Q R E hi S hQ => zNext D' (.inl rfl) hn hi S fun h' tk T vs f0' b c d e l f g k => by
    rw [b rfl] at d
    exact zGo D d fun h₂ S₂ k₂ => hQ _ h₂ tk ⟨T, vs, rfl, l, k₂ T _ e f, g⟩ S₂ fun b o hb q => k₂ b o hb (k b o hb q),
    fun s Q E S hQ => zEnd hh D' (.inl rfl) (.inr rfl) S fun h' k => hQ h' s.toks k, fun i s Q E S hQ => zSelf S hQ⟩
end
/-- what a zip is made over -/
noncomputable def ItAs (h : Heap) (v : Value) (o : Obj) : Prop := (∃ x t, v = .str x t ∧ o = { cls := .type (strIterType x), data := .fields #[.str x t, .int 0 0] }) ∨
  (∃ l xs, v = .ref l ∧ h.IsList l xs ∧ o = { cls := .type "list_iterator", data := .fields #[.ref l, .int 0 0] })
section
variable {prog : Program} {w : World} {A : Around} {E : Value → Shared → Prop} {s : Shared}
theorem itAs {h0 : Heap} {v : Value} {o : Obj} {Q : Value → Shared → Prop} (a : ItAs h0 v o) (k : Kp h0 s.heap) (h : Q (.ref s.heap.objs.size) { s with heap := s.heap.push o }) : wpAny (model prog w) A (pyIter v) Q E s := by
  rcases a with ⟨x, t, rfl, rfl⟩ | ⟨l, xs, rfl, hl, rfl⟩
  · exact wpAny_pyIter_strU h
  · exact wpAny_pyIter_list (hl.at fun o e => k l o e) h
theorem itAs_free {h0 : Heap} {v : Value} {o : Obj} (a : ItAs h0 v o) : o.isFreed = false := by
  rcases a with ⟨x, t, rfl, rfl⟩ | ⟨l, xs, rfl, hl, rfl⟩ <;> rfl
structure Its (h0 : Heap) (args : List Value) (b k : Nat) (h : Heap) : Prop where
  kp : Kp h0 h
  sz : h.objs.size = b + k
  gt : ∀ j, j < k → ∃ v o, args[j]? = some v ∧ ItAs h0 v o ∧ h.get? (b + j : Nat) = some o
theorem itAll {args : List Value} {Q : Array Value → Shared → Prop} (ha : ∀ v ∈ args, ∃ o, ItAs s.heap v o) (h : ∀ h', Its s.heap args s.heap.objs.size args.length h' → Q ((List.range args.length).map fun j => Value.ref (s.heap.objs.size + j : Nat)).toArray { s with heap := h' }) :
    wpAny (model prog w) A (forIn args (#[] : Array Value) fun x r => do let v ← holding r.toList (pyIter x); pure (ForInStep.yield (r.push v))) Q E s := by
  refine wpAny_forIn_list _ (fun rest b s' => ∃ k h', rest = args.drop k ∧ k ≤ args.length ∧ b = ((List.range k).map fun j => Value.ref (s.heap.objs.size + j : Nat)).toArray ∧ s' = { s with heap := h' } ∧ Its s.heap args s.heap.objs.size k h') _ ?_ ?_ _ _ ?_
  · rintro x rest b s' ⟨k, h', e, hk, rfl, rfl, I⟩
    have hlt : k < args.length := by
      apply Nat.lt_of_not_le
      intro c
      rw [List.drop_eq_nil_of_le c] at e
      cases e
    rw [List.drop_eq_getElem_cons hlt] at e
    obtain ⟨rfl, rfl⟩ := List.cons.inj e
    obtain ⟨o, ao⟩ := ha _ (List.getElem_mem hlt)
    refine wpAny_bind (wpAny_holding (itAs ao I.kp (wpAny_pure ?_)))
    refine ⟨k + 1, _, rfl, hlt, ?_, rfl, ⟨fun b o e => Heap.get?_push_of_some _ (I.kp b o e), by rw [Heap.size_push, I.sz]; rfl, fun j hj => ?_⟩⟩
    · rw [List.range_succ, List.map_append]
      show _ = _
      simp [I.sz]
    · rcases Nat.lt_or_eq_of_le (Nat.le_of_lt_succ hj) with c | rfl
      · obtain ⟨v, o', a, b, c⟩ := I.gt j c
        exact ⟨v, o', a, b, Heap.get?_push_of_some _ c⟩
      · have := Heap.get?_push_size h' (itAs_free ao)
        rw [I.sz] at this
        exact ⟨_, o, List.getElem?_eq_getElem hlt, ao, this⟩
  · rintro b s' ⟨k, h', e, hk, rfl, rfl, I⟩
    obtain rfl : k = args.length := Nat.le_antisymm hk (Nat.le_of_not_lt fun c => by rw [List.drop_eq_getElem_cons c] at e; cases e)
    exact h h' I
  · exact ⟨0, s.heap, rfl, Nat.zero_le _, rfl, rfl, ⟨fun _ _ e => e, rfl, fun j hj => absurd hj (Nat.not_lt_zero _)⟩⟩
/-- a zip as made -/
structure ZNew (h0 : Heap) (args : List Value) (b : Nat) (h : Heap) : Prop where
  kp : Kp h0 h
  gt : ∀ j, j < args.length → ∃ v o, args[j]? = some v ∧ ItAs h0 v o ∧ h.get? (b + j : Nat) = some o
  ti : h.get? (b + args.length : Nat) = some { cls := .type "tuple", data := .seq ((List.range args.length).map fun j => Value.ref (b + j : Nat)).toArray }
  to : h.get? (b + args.length + 1 : Nat) = some { cls := .type "tuple", data := .seq (((List.range args.length).map fun j => Value.ref (b + j : Nat)).map fun _ => .none).toArray }
  z : IsZ h (b + args.length + 2 : Nat) (b + args.length : Nat) (b + args.length + 1 : Nat) .none (.bool false)
  sz : h.objs.size = b + args.length + 3
theorem meets_zip (args : List Value) (hl : args.length ≤ 1000) :
    Meets (Builtin.«zip.__new__» ⟨.type "zip" :: args, []⟩) (fun _ R s => (∀ v ∈ args, ∃ o, ItAs s.heap v o) ∧ ∀ h', ZNew s.heap args s.heap.objs.size h' → R (.ok (.ret (.ref (s.heap.objs.size + args.length + 2 : Nat)))) { s with heap := h' }) :=
  .of_wp fun prog w A R s h => by
    obtain ⟨ha, h⟩ := h
    have hsub := sub_zip
    obtain ⟨hp, g, d, tk, os⟩ := s
    wp_walk
    refine itAll ha fun h' I => ?_
    obtain ⟨kp, sz, gt⟩ := I
    refine wpAny_pure ?_
    refine wpAny_bind (wpAny_newTuple ?_ (by rw [sizeLine_eq]; simp; exact Mine.q34 hl))
    refine wpAny_bind (wpAny_newTuple ?_ (by rw [sizeLine_eq]; simp; exact Mine.q34 hl))
    refine wpAny_bind ?_
    unfold Builtin.SmallTypes.newRecord
    dsimp only
    refine wpAny_newObj_type (wpAny_pure ⟨_, rfl, ?_⟩) (by show (5 : Nat) ≤ sizeLine + 2; rw [sizeLine_eq]; decide)
    have z1 : ∀ (h : Heap) o, (h.push o).objs.size = h.objs.size + 1 := fun h o => Heap.size_push ..
    have up : ∀ (h : Heap) (o : Obj) a p, h.get? a = some p → (h.push o).get? a = some p := fun h o a p e => Heap.get?_push_of_some _ e
    have q1 := Heap.get?_push_size h' (o := { cls := .type "tuple", data := .seq ((List.range args.length).map fun j => Value.ref (hp.objs.size + j : Nat)).toArray }) rfl
    have q2 := Heap.get?_push_size (h'.push { cls := .type "tuple", data := .seq ((List.range args.length).map fun j => Value.ref (hp.objs.size + j : Nat)).toArray }) (o := { cls := .type "tuple", data := .seq (((List.range args.length).map fun j => Value.ref (hp.objs.size + j : Nat)).map fun _ => Value.none).toArray }) rfl
    have q3 := Heap.get?_push_size ((h'.push { cls := .type "tuple", data := .seq ((List.range args.length).map fun j => Value.ref (hp.objs.size + j : Nat)).toArray }).push { cls := .type "tuple", data := .seq (((List.range args.length).map fun j => Value.ref (hp.objs.size + j : Nat)).map fun _ => Value.none).toArray })
      (o := { cls := .type "zip", data := .fields #[.none, .bool false, .bool false, .ref (hp.objs.size + args.length : Nat), .ref (hp.objs.size + args.length + 1 : Nat)] }) rfl
    rw [sz] at q1
    rw [z1, sz] at q2
    rw [z1, z1, sz] at q3
    have fin := h _ ⟨fun b o e => up _ _ _ _ (up _ _ _ _ (up _ _ _ _ (kp b o e))), fun j hj => by
      obtain ⟨v, o, a, b, c⟩ := gt j hj
      exact ⟨v, o, a, b, up _ _ _ _ (up _ _ _ _ (up _ _ _ _ c))⟩, up _ _ _ _ (up _ _ _ _ q1), up _ _ _ _ q2, q3, by rw [z1, z1, z1, sz]⟩
    dsimp only at fin ⊢
    rw [z1, z1, sz]
    exact fin
theorem zipOk (args : List Value) (hl : args.length ≤ 4) : checkTypeCall "zip" ⟨args, []⟩ = pure () ∧ checkBuiltinCall "zip.__new__" ⟨.type "zip" :: args, []⟩ = pure () ∧ ∀ obj, argsOk "object.__init__" ⟨obj :: args, []⟩ := by
  have ow := @F.owner_object
  first | rw [PySem.W.Fast.te11612656972197000677, PySem.W.Fast.te10254737850608025244] | skip
  rcases args with _ | ⟨a, _ | ⟨b, _ | ⟨c, _ | ⟨d, _ | ⟨e, r⟩⟩⟩⟩⟩ <;> first | (exfalso; simp only [List.length_cons] at hl; exact Mine.q125 hl) | refine ⟨by kernel_rfl, by kernel_rfl, fun obj => ?_⟩
  all_goals (unfold argsOk; rw [signature?_of (id := "object.__init__") (n := ['_', '_', 't', 'i', 'n', 'i', '_', '_']) (o := ['t', 'c', 'e', 'j', 'b', 'o']) (by kernel_rfl) ow]; kernel_rfl)
theorem callZip {args : List Value} {Q : Value → Shared → Prop} (hl : args.length ≤ 4) (ha : ∀ v ∈ args, ∃ o, ItAs s.heap v o) (h : ∀ h', ZNew s.heap args s.heap.objs.size h' → Q (.ref (s.heap.objs.size + args.length + 2 : Nat)) { s with heap := h' }) :
    wpAny (model prog w) A (call (.type "zip") args) Q E s := by
  obtain ⟨a, b, c⟩ := zipOk args hl
  refine callType_new F.called_zip (by decide) a b c F.entry_zip_new (meets_zip args (Nat.le_trans hl (by decide))) ⟨ha, fun h' Z => ?_⟩
  exact ⟨⟨_, Z.z, rfl⟩, h h' Z⟩
end
end Mine
end
section
open PySem PySem.W PyProof.Rows PySem.Calls PySem.Spec
set_option Elab.async false
set_option maxRecDepth 100000
set_option maxHeartbeats 4000000
namespace Mine
noncomputable def srcS (a : Addr) (x : Str) (t : Tok) : Src := ⟨a, [a], fun i v => ∃ c u, x.cps[i]? = some c ∧ v = .str ⟨#[c]⟩ u, fun i h => h.IsStrIter a "str_ascii_iterator" x t i⟩
noncomputable def srcL (a l : Addr) (xs : Array Value) : Src := ⟨a, [a, l], fun i v => xs[i]? = some v, fun i h => h.IsListIter a l i ∧ h.IsList l xs⟩
/-- the iterators that a zip makes -/
inductive Made (h0 : Heap) (n : Nat) : Nat → List Value → List Src → Prop
  | nil (b : Nat) : Made h0 n b [] []
  | str {b : Nat} {vs : List Value} {qs : List Src} {x : Str} {t : Tok} (ha : x.cps.all (· < 128) = true) (hx : x.cps.size = n) (r : Made h0 n (b + 1) vs qs) : Made h0 n b (.str x t :: vs) (srcS b x t :: qs)
  | list {b : Nat} {vs : List Value} {qs : List Src} {l : Addr} {xs : Array Value} (hl : h0.IsList l xs) (hx : xs.size = n) (r : Made h0 n (b + 1) vs qs) : Made h0 n b (.ref l :: vs) (srcL b l xs :: qs)
structure MadeF (prog : Program) (w : World) (A : Around) (h0 : Heap) (n b k : Nat) (q : Src) : Prop where
  dr : Draws prog w A q.it q.fp n q.P q.St
  own : q.it ∈ q.fp
  lo : b ≤ q.it
  hi : @LT.lt Nat _ q.it (b + k)
  fp : ∀ a ∈ q.fp, a = q.it ∨ a < h0.objs.size
section
variable {prog : Program} {w : World} {A : Around} {h0 : Heap} {n : Nat}
theorem MadeF.up {b k : Nat} {q : Src} (M : MadeF prog w A h0 n (b + 1) k q) : MadeF prog w A h0 n b (k + 1) q :=
  ⟨M.dr, M.own, Nat.le_of_succ_le M.lo, by have := M.hi; exact Mine.q126 this, M.fp⟩
theorem isL_lt {l : Addr} {xs : Array Value} (h : h0.IsList l xs) : l < h0.objs.size := by
  obtain ⟨o, ho, _⟩ := h
  exact Heap.lt_size ho
theorem Made.len : ∀ {b : Nat} {vs : List Value} {qs : List Src}, Made h0 n b vs qs → qs.length = vs.length
  | _, _, _, .nil _ => rfl
  | _, _, _, .str _ _ r => congrArg (· + 1) r.len
  | _, _, _, .list _ _ r => congrArg (· + 1) r.len
theorem Made.fact (hh : A.handled = none) : ∀ {b : Nat} {vs : List Value} {qs : List Src}, Made h0 n b vs qs → h0.objs.size ≤ b → ∀ q ∈ qs, MadeF prog w A h0 n b vs.length q
  | _, _, _, .nil _, _ => fun q hq => absurd hq List.not_mem_nil
  | b, _, _, .str (x := x) (t := t) ha hx r, hb => fun q hq => by
    rcases List.mem_cons.mp hq with rfl | hq
    · exact ⟨hx ▸ Draws.strAscii hh b x t, .head _, Nat.le_refl _, Nat.lt_add_of_pos_right (Nat.succ_pos _), fun a ha => .inl (List.mem_singleton.mp ha)⟩
    · exact (r.fact hh (Nat.le_succ_of_le hb) q hq).up
  | b, _, _, .list (l := l) (xs := xs) hl hx r, hb => fun q hq => by
    rcases List.mem_cons.mp hq with rfl | hq
    · exact ⟨hx ▸ Draws.list hh b l (Nat.ne_of_lt (Nat.lt_of_lt_of_le (isL_lt hl) hb)) xs, .head _, Nat.le_refl _, Nat.lt_add_of_pos_right (Nat.succ_pos _), fun a ha => by
        rcases List.mem_cons.mp ha with e | ha
        · exact .inl e
        · exact .inr (List.mem_singleton.mp ha ▸ isL_lt hl)⟩
    · exact (r.fact hh (Nat.le_succ_of_le hb) q hq).up
theorem MadeF.apart {b k b' k' : Nat} {q q' : Src} (M : MadeF prog w A h0 n b k q) (M' : MadeF prog w A h0 n b' k' q') (hb : h0.objs.size ≤ q.it) (hlt : @LT.lt Nat _ q.it q'.it) : q.it ∉ q'.fp ∧ q'.it ∉ q.fp :=
  ⟨fun h => by
    rcases M'.fp _ h with e | e
    · exact Nat.lt_irrefl _ (e ▸ hlt)
    · exact absurd e (Nat.not_lt.mpr hb),
  fun h => by
    rcases M.fp _ h with e | e
    · exact Nat.lt_irrefl _ (e ▸ hlt)
    · exact absurd e (Nat.not_lt.mpr (Nat.le_trans hb (Nat.le_of_lt hlt)))⟩
theorem Made.pw (p0 : Program) (w0 : World) (hh : A.handled = none) : ∀ {b : Nat} {vs : List Value} {qs : List Src}, Made h0 n b vs qs → h0.objs.size ≤ b → qs.Pairwise fun a b => a.it ∉ b.fp ∧ b.it ∉ a.fp
  | _, _, _, .nil _, _ => .nil
  | b, _, _, .str ha hx r, hb => .cons (fun q hq => ((Made.str ha hx r).fact (prog := p0) (w := w0) hh hb _ (.head _)).apart (r.fact hh (Nat.le_succ_of_le hb) q hq) hb (r.fact (prog := p0) (w := w0) hh (Nat.le_succ_of_le hb) q hq).lo) (r.pw p0 w0 hh (Nat.le_succ_of_le hb))
  | b, _, _, .list hl hx r, hb => .cons (fun q hq => ((Made.list hl hx r).fact (prog := p0) (w := w0) hh hb _ (.head _)).apart (r.fact hh (Nat.le_succ_of_le hb) q hq) hb (r.fact (prog := p0) (w := w0) hh (Nat.le_succ_of_le hb) q hq).lo) (r.pw p0 w0 hh (Nat.le_succ_of_le hb))
theorem range_ref (b k : Nat) : ((List.range (k + 1)).map fun j => Value.ref (b + j : Nat)) = .ref b :: (List.range k).map fun j => Value.ref (b + 1 + j : Nat) := by
  rw [List.range_succ_eq_map, List.map_cons, List.map_map]
  congr 1
  refine List.map_congr_left fun j _ => ?_
  show Value.ref (b + (j + 1) : Nat) = _
  rw [Nat.add_right_comm, ← Nat.add_assoc]
theorem Made.its : ∀ {b : Nat} {vs : List Value} {qs : List Src}, Made h0 n b vs qs → Mine.its qs = (List.range vs.length).map fun j => Value.ref (b + j : Nat)
  | _, _, _, .nil _ => rfl
  | _, _, _, .str _ _ r => by rw [List.length_cons, range_ref, ← r.its]; rfl
  | _, _, _, .list _ _ r => by rw [List.length_cons, range_ref, ← r.its]; rfl
theorem Made.st {h' : Heap} (kp : Kp h0 h') : ∀ {b : Nat} {vs : List Value} {qs : List Src}, Made h0 n b vs qs → (∀ j, j < vs.length → ∃ v o, vs[j]? = some v ∧ ItAs h0 v o ∧ h'.get? (b + j : Nat) = some o) → ∀ q ∈ qs, q.St 0 h'
  | _, _, _, .nil _, _ => fun q hq => absurd hq List.not_mem_nil
  | b, _, _, .str (x := x) ha hx r, g => fun q hq => by
    rcases List.mem_cons.mp hq with rfl | hq
    · obtain ⟨v, o, e, a, c⟩ := g 0 (Nat.succ_pos _)
      cases e
      rcases a with ⟨x', t', e, rfl⟩ | ⟨_, _, e, _⟩ <;> cases e
      refine ⟨_, c, ?_, rfl⟩
      show Value.type (strIterType x) = _
      rw [strIterType, ha]; rfl
    · refine r.st kp (fun j hj => ?_) q hq
      have := g (j + 1) (Nat.succ_lt_succ hj)
      rw [Nat.add_right_comm, Nat.add_assoc]
      exact this
  | b, _, _, .list hl hx r, g => fun q hq => by
    rcases List.mem_cons.mp hq with rfl | hq
    · obtain ⟨v, o, e, a, c⟩ := g 0 (Nat.succ_pos _)
      cases e
      rcases a with ⟨x', t', e, rfl⟩ | ⟨_, _, e, _, rfl⟩ <;> cases e
      exact ⟨⟨_, c, rfl, rfl⟩, hl.at fun o e => kp _ o e⟩
    · refine r.st kp (fun j hj => ?_) q hq
      have := g (j + 1) (Nat.succ_lt_succ hj)
      rw [Nat.add_right_comm, Nat.add_assoc]
      exact this
theorem Made.as : ∀ {b : Nat} {vs : List Value} {qs : List Src}, Made h0 n b vs qs → ∀ v ∈ vs, ∃ o, ItAs h0 v o
  | _, _, _, .nil _ => fun v hv => absurd hv List.not_mem_nil
  | _, _, _, .str (x := x) (t := t) ha hx r => fun v hv => by
    rcases List.mem_cons.mp hv with rfl | hv
    · exact ⟨_, .inl ⟨x, t, rfl, rfl⟩⟩
    · exact r.as v hv
  | _, _, _, .list (l := l) (xs := xs) hl hx r => fun v hv => by
    rcases List.mem_cons.mp hv with rfl | hv
    · exact ⟨_, .inr ⟨l, xs, rfl, hl, rfl⟩⟩
    · exact r.as v hv
theorem Made.fpl : ∀ {b : Nat} {vs : List Value} {qs : List Src}, Made h0 n b vs qs → ∀ q ∈ qs, ∀ a ∈ q.fp, (@LT.lt Nat _ a (b + vs.length) ∧ b ≤ a) ∨ a < h0.objs.size
  | _, _, _, .nil _ => fun q hq => absurd hq List.not_mem_nil
  | b, _, _, .str ha hx r => fun q hq a ha => by
    rcases List.mem_cons.mp hq with rfl | hq
    · exact .inl (List.mem_singleton.mp ha ▸ ⟨Nat.lt_add_of_pos_right (Nat.succ_pos _), Nat.le_refl _⟩)
    · exact (r.fpl q hq a ha).imp (fun c => ⟨by have := c.1; simp only [List.length_cons]; exact Mine.q126 c.1, Nat.le_of_succ_le c.2⟩) id
  | b, _, _, .list hl hx r => fun q hq a ha => by
    rcases List.mem_cons.mp hq with rfl | hq
    · rcases List.mem_cons.mp ha with e | ha
      · exact .inl (e ▸ ⟨Nat.lt_add_of_pos_right (Nat.succ_pos _), Nat.le_refl _⟩)
      · exact .inr (List.mem_singleton.mp ha ▸ isL_lt hl)
    · exact (r.fpl q hq a ha).imp (fun c => ⟨by have := c.1; simp only [List.length_cons]; exact Mine.q126 c.1, Nat.le_of_succ_le c.2⟩) id
/-- a zip as made: it stands -/
theorem ZNew.ok {args : List Value} {qs : List Src} {h' : Heap} (hl : args.length ≤ 4) (M : Made h0 n h0.objs.size args qs) (Z : ZNew h0 args h0.objs.size h') :
    (∀ A : Around, A.handled = none → ZOk prog w A (h0.objs.size + args.length + 2 : Nat) (h0.objs.size + args.length : Nat) (h0.objs.size + args.length + 1 : Nat) n qs) ∧
    ZSt (h0.objs.size + args.length + 2 : Nat) (h0.objs.size + args.length : Nat) (h0.objs.size + args.length + 1 : Nat) qs .none 0 h' ∧ ∀ b ∈ zFp (h0.objs.size + args.length + 2 : Nat) (h0.objs.size + args.length : Nat) (h0.objs.size + args.length + 1 : Nat) qs, b < h'.objs.size ∧ (b ∈ zW (h0.objs.size + args.length + 2 : Nat) (h0.objs.size + args.length + 1 : Nat) qs → h0.get? b = none) := by
  have lt : ∀ (A : Around), A.handled = none → ∀ q ∈ qs, MadeF prog w A h0 n h0.objs.size args.length q := fun A hh => M.fact hh (Nat.le_refl _)
  have st := M.st Z.kp Z.gt
  have sz := Z.sz
  have le : h0.objs.size ≤ h'.objs.size := by exact Mine.q127 sz
  refine ⟨fun A hh => ⟨fun q hq => (lt A hh q hq).dr, fun q hq => (lt A hh q hq).own, M.pw prog w hh (Nat.le_refl _), fun q hq => ?_, ⟨?_, ?_, ?_⟩, by rw [M.len]; exact Mine.q128 hl⟩, ⟨⟨_, Z.z⟩, ?_, ⟨_, Z.to, by simp [M.len]⟩, st⟩, fun b hb => ⟨?_, fun hb => ?_⟩⟩
  · have f := lt A hh q hq
    have hi := f.hi
    have no : ∀ m : Nat, h0.objs.size + args.length ≤ m → m ∉ q.fp := fun m hm c => by
      rcases f.fp _ c with e | e
      · have e : m = (q.it : Nat) := e
        exact Mine.q129 hi hm e
      · have e : m < h0.objs.size := e
        exact Mine.q130 hm e
    exact ⟨no _ (by exact Mine.q131), no _ (by exact Mine.q132), fun c => by
      have c : h0.objs.size + args.length = (q.it : Nat) := c
      exact Mine.q133 hi c⟩
  · exact Nat.ne_of_lt (Nat.lt_add_of_pos_right (by decide))
  · exact Nat.ne_of_lt (Nat.lt_succ_self _)
  · exact Nat.ne_of_lt (Nat.lt_succ_self _)
  · rw [M.its]
    exact ⟨_, Z.ti, rfl, _, rfl⟩
  · rcases List.mem_cons.mp hb with rfl | hb
    · exact Heap.lt_size Z.z
    · rcases List.mem_cons.mp hb with rfl | hb
      · exact Heap.lt_size Z.ti
      · rcases List.mem_cons.mp hb with rfl | hb
        · exact Heap.lt_size Z.to
        · obtain ⟨l, hl', hb⟩ := List.mem_flatten.mp hb
          obtain ⟨q, hq, rfl⟩ := List.mem_map.mp hl'
          rcases M.fpl q hq b hb with ⟨e, f⟩ | e
          · exact Nat.lt_of_lt_of_le e (by exact Mine.q134 sz)
          · exact Nat.lt_of_lt_of_le e le
  · rcases List.mem_cons.mp hb with rfl | hb
    · exact Heap.get?_none_of_le (Nat.le_trans (Nat.le_add_right _ _) (Nat.le_add_right _ _))
    · rcases List.mem_cons.mp hb with rfl | hb
      · exact Heap.get?_none_of_le (Nat.le_trans (Nat.le_add_right _ _) (Nat.le_add_right _ _))
      · obtain ⟨q, hq, e⟩ := List.mem_map.mp hb
        have := List.mem_map_of_mem (f := fun q : Src => Value.ref q.it) hq
        rw [show qs.map (fun q : Src => Value.ref q.it) = _ from M.its] at this
        obtain ⟨j, _, f⟩ := List.mem_map.mp this
        rw [← e, ← Value.ref.inj f]
        exact Heap.get?_none_of_le (Nat.le_add_right _ _)
end
end Mine
end
section
open PySem PySem.W PyProof.Rows PySem.Calls PySem.Spec
set_option Elab.async false
set_option maxRecDepth 100000
set_option maxHeartbeats 4000000
namespace Mine
theorem fillKS : (PySem.Challenge.rw_oc0253_01, Mine.hd.heap_1) = (PySem.Challenge.rw_oc0253_01, Mine.hd.heap_1) := by k_fill; rfl
noncomputable abbrev sgn : Str := Str.ofString "drwxrwxrwx"
noncomputable def sgS (bs : List Bool) (i : Nat) : List Str := (List.range i).map fun j => if bs[j]? = some true then ⟨#[(sgn.cps[j]?).getD 0]⟩ else Str.ofString "-"
theorem sgS_small (bs : List Bool) : ((sgS bs 10).map (·.length)).sum + (sgS bs 10).length * 64 ≤ 16777216 := by
  have : (sgS bs 10).map (·.length) = List.replicate 10 1 := by
    rw [List.eq_replicate_iff]
    refine ⟨by simp [sgS], fun b hb => ?_⟩
    obtain ⟨x, hx, rfl⟩ := List.mem_map.mp hb
    obtain ⟨j, _, rfl⟩ := List.mem_map.mp hx
    split <;> rfl
  rw [this]
  simp [sgS]
theorem sgC {prog : Program} {w : World} {n₀ : Nat} {A : Around} {s : Shared} {Q E : Value → Shared → Prop} (G : Gd w n₀ s.heap) (r : Rm A 5 30) (hs : n₀ ≤ s.heap.objs.size) {aR : Addr} {bs : List Bool} {rn : Nat} (hR : s.heap.get? aR = some (W.listOf (bs.map Value.bool).toArray rn)) (hbs : bs.length = 10)
    (ret : ∀ h' tk t, Kp s.heap h' → Q (.str (Txt.join "" (sgS bs 10)) t) { s with heap := h', toks := tk }) :
    wpAny (model prog w) A (call (.ref 225) [.ref aR]) Q E s := by
  w_on
  refine wpAny_call ?_
  refine' startQ (K := Mine.hd.heap_1 w.params) [] [(Str.ofString "rights", .ref aR)] (d := 4) (u := 27) r (fun _ q => q) G hs trivial ?k4 ?k5 ?k7 ?k8 ?_ ?c2 ?c3 ?c4 ?c5
  (case k4 => k_is)
  (case k5 => k_is)
  (case k7 => exact BindsTo.of_eq rfl)
  (case k8 => exact locs rfl)
  (case c2 => exact rfl)
  (case c3 => exact rfl)
  (case c4 => exact rfl)
  (case c5 => decide)
  intro A' PQ PE rA hQ1 hQ2 h₁ h₀ L tail mean mg mb tk0 B F N X TT
  simp only [List.nil_append] at N
  have TR := topRead_of TT
  have kp1 : Kp s.heap h₁ := (B.fin _ _ _ F N fun q hq => hq).kp
  have gR1 := kp1 _ _ hR
  w_strict (
  k_steps
  refine compV (hb := h₁) (cl := []) (by with_unfolding_all rfl) rfl (by decide) ?_
  k_steps
  dsimp only
  have M : Made h₁ 10 h₁.objs.size [.str sgn (tk0 + 1), .ref aR] [srcS h₁.objs.size sgn (tk0 + 1), srcL (h₁.objs.size + 1 : Nat) aR (bs.map Value.bool).toArray] := .str (by decide +kernel) (by decide +kernel) (.list (IsL.isList gR1) (by rw [List.size_toArray, List.length_map, hbs]) (.nil _))
  refine callZip (Nat.le_of_ble_eq_true rfl) M.as fun h2 Z => ?_
  obtain ⟨ok, st, lt⟩ := Z.ok (prog := prog) (w := w) (Nat.le_of_ble_eq_true rfl) M
  have z3 : h₁.objs.size ≤ h2.objs.size := by rw [Z.sz]; exact Nat.le_trans (Nat.le_add_right _ _) (Nat.le_add_right _ _)
  have oA := ok A' rA.hh
  refine zSelf st ?_
  refine CompIs.mk _ _ _ 10 _ _ (fun _ _ i ys _ => StrsAre ys (sgS bs i)) (zPair rA.hh oA (ok A'.in1 rA.hh) (by simp) _ _ _) (by rw [sizeLine_eq]; decide) st (fun b hb => (lt b hb).1) Z.kp z3 (fun b hb => (lt b (zSub oA b hb)).2 hb) (fun _ _ _ _ => .nil) (fun _ _ _ _ _ _ q _ => q) ?_ ?_
  · rintro PT PE D C i v ys m h tk hC hV hcl gD hPT hi ⟨T, vs, rfl, _, hT, f2⟩ hR' hys hk hn
    obtain ⟨v0, v1, rfl, ⟨c, u, e0, rfl⟩, e1⟩ : ∃ v0 v1, vs = [v0, v1] ∧ (∃ c u, sgn.cps[i]? = some c ∧ v0 = .str ⟨#[c]⟩ u) ∧ (bs.map Value.bool).toArray[i]? = some v1 := by
      cases f2 with
      | cons a r => cases r with
        | cons b r => cases r; exact ⟨_, _, rfl, a, b⟩
    refine asgT rA.hh rfl rfl rfl rfl ⟨_, hT, rfl, _, rfl⟩ hn fun h4 tk4 hn4 kb4 => ?_
    have nC : ∀ b o, h₁.get? b = some o → (b : Nat) ≠ C := fun b o e => Nat.ne_of_lt (Nat.lt_of_lt_of_le (Heap.lt_size e) (Nat.le_trans z3 hC))
    have K4 : Kp h₁ h4 := fun b o e => kb4 b o (nin1 (nC b o e)) (hk b o e)
    refine rebaseFK [] G (kp1.trans K4) hn4 (Nat.le_trans hs (Nat.le_trans B.ls (Nat.le_trans (Nat.le_of_lt F.ns.lt) (Nat.le_trans z3 hC)))) (fun _ h => absurd h List.not_mem_nil) fun h₀9 tail9 F9 N9 off9 lt9 X9 mean9 mg9 mb9 T9 hid9 bk9 => ?_
    simp only [List.nil_append] at N9 F9
    have TR9 := topRead_of T9
    refine test0 ?_
    dsimp only
    obtain ⟨b, hb, rfl⟩ : ∃ b, bs[i]? = some b ∧ .bool b = v1 := by
      rw [List.getElem?_toArray, List.getElem?_map] at e1
      exact Option.map_eq_some_iff.mp e1
    have est : ∀ x : Str, (x = if b = true then ⟨#[c]⟩ else Str.ofString "-") → ∀ t, StrsAre (ys ++ [.str x t]) (sgS bs (i + 1)) := fun x hx t => by
      have : sgS bs (i + 1) = sgS bs i ++ [x] := by
        unfold sgS
        rw [List.range_succ, List.map_append, List.map_singleton, hb, e0, hx]
        cases b <;> rfl
      rw [this]
      exact StrsAre.append hR' (.cons _ _ .nil)
    clear F N
    k_steps
    · exact hPT _ _ _ _ (kbCV kb4) hn4 (clsNil rfl) (est _ (if_pos ‹b = true›).symm _) (by rw [List.length_append]; exact Nat.succ_le_succ hys)
    · exact hPT _ _ _ _ (kbCV kb4) hn4 (clsNil rfl) (est _ (by cases b; rfl; contradiction) _) (by rw [List.length_append]; exact Nat.succ_le_succ hys)
  · intro D C ys h' tk n' hk hD zD gD hR' hys hDC zC hCn h'' sb
    have nC : ∀ b o, h₁.get? b = some o → b ≠ C := fun b o e => Nat.ne_of_lt (Nat.lt_of_lt_of_le (Heap.lt_size e) zC)
    have K5 : Kp h₁ h'' := fun b o e => sb.extBut b o (nC b o e) (hk b o e)
    obtain ⟨F5, N5⟩ := led_new F N K5 zD (sb.extBut _ _ hDC gD)
    clear F N
    dsimp only
    k_steps
    refine join_listC (IsL.isList (N5.get (.head _))) hR' (by decide) (sgS_small bs) ?_
    intro t9 tk9
    k_steps
    (rename Fr _ _ _ _ => F9); (rename News _ _ _ _ => N9)
    exact hQ1 _ _ (ret _ _ _ (B.fin _ _ _ F9 N9 fun q hq => tl hq).kp))
end Mine
end
section
open PySem PySem.W PyProof.Rows PySem.Calls PySem.Spec
set_option Elab.async false
set_option maxRecDepth 100000
set_option maxHeartbeats 4000000
namespace Mine
theorem fillKN : (PySem.Challenge.rw_oc0253_01, Mine.hd.heap_1) = (PySem.Challenge.rw_oc0253_01, Mine.hd.heap_1) := by k_fill; rfl
/-- a node's parts -/
structure NodeOk (many : Nat) (kd : Int) (ts : List Int) (bs : List Bool) : Prop where
  lo : 0 ≤ kd
  hi : kd ≤ 3
  rng : ∀ t ∈ ts, 0 ≤ t ∧ t < many
  small : kd < 2 → bs.length = 10 ∧ ts = []
  big : 2 ≤ kd → 1 ≤ ts.length ∧ ts.length ≤ 4
theorem itDown {prog : Program} {w : World} {A : Around} {E : Value → Shared → Prop} {s : Shared} {t u v : Tok} {Q : Value → Shared → Prop}
    (h : ∀ h' I tk, Kp s.heap h' → s.heap.objs.size ≤ I → s.heap.objs.size ≤ h'.objs.size → IsRangeIter h' I 8 9 (-1) → Q (.ref I) { s with heap := h', toks := tk }) :
    wpAny (model prog w) A (call (.type "range") [.int 8 t, .int (-1) u, .int (-1) v]) (fun xv s₁ => wpAny (model prog w) A (pyIter xv) Q E s₁) E s := by
  refine call_range_3 (by decide) ?_ (Or.inl (PyProof.noPylong_of_log2 (by decide +kernel)))
  refine wpAny_pyIter_range (IsRange.new _ _ _ _ _ _ _) (by decide) ?_
  rw [show Builtin.Range.rangeSize 8 (-1) (-1) = 9 by decide]
  refine h _ _ _ (fun b o q => Heap.get?_push_of_some _ (Heap.get?_push_of_some _ q)) ?_ ?_ (Heap.get?_push_size _ rfl)
  · show s.heap.objs.size ≤ (s.heap.push _).objs.size
    rw [Heap.size_push]; exact Nat.le_succ _
  · show s.heap.objs.size ≤ ((s.heap.push _).push _).objs.size
    rw [Heap.size_push, Heap.size_push]; exact Nat.le_succ_of_le (Nat.le_succ _)
theorem powB (m n : Nat) (hm : m ≤ 13) (h1 : 1 ≤ m) (hn : n ≤ 8) : (m : Int) ^ n ≠ 0 ∧ ∀ a, Builtin.divisionGoesByPylong a ((m : Int) ^ n) = false := by
  have h := Nat.pow_le_pow_left hm n
  have h2 : 13 ^ n ≤ 815730721 := Nat.pow_le_pow_right (n := 13) (by decide) hn
  have h3 := Nat.pow_pos (n := n) h1
  have e : (m : Int) ^ n = ((m ^ n : Nat) : Int) := by simp
  rw [e]
  refine ⟨by exact Mine.q135 h3, fun a => PyProof.noPylong_small (by rw [Int.natAbs_natCast]; exact Mine.q136 h h2)⟩
theorem ints_mem : ∀ {vs : List Value} {ns : List Int} {i : Nat} {v : Value}, IntsAre vs ns → vs[i]? = some v → ∃ f t, v = .int f t ∧ f ∈ ns
  | _, _, _, _, .nil, h => by cases h
  | _, _, 0, _, .cons n t r, h => ⟨n, t, (Option.some.inj h).symm, .head _⟩
  | _, _, i + 1, _, .cons n t r, h => by
    obtain ⟨f, u, e, m⟩ := ints_mem (i := i) r h
    exact ⟨f, u, e, .tail _ m⟩
theorem nodeC {prog : Program} {w : World} {n₀ : Nat} {A : Around} {s : Shared} {Q E : Value → Shared → Prop} (G : Gd w n₀ s.heap) (r : Rm A 8 60) (hs : n₀ ≤ s.heap.objs.size) {x : Int} {place many : Nat} {t0 t1 t2 : Tok} (hm : 2 ≤ many ∧ many ≤ 13) (hp : place < many)
    (ret : ∀ h' tk D n T nT R nR kd tt vs ts bs, Kp s.heap h' → s.heap.objs.size ≤ D → s.heap.objs.size ≤ T → s.heap.objs.size ≤ R → h'.get? D = some (W.listOf #[.int kd tt, .ref T, .ref R] n) → h'.get? T = some (W.listOf vs nT) → IntsAre vs.toList ts →
      h'.get? R = some (W.listOf (bs.map Value.bool).toArray nR) → kd = x.fmod 4 → NodeOk many kd ts bs → Q (.ref D) { s with heap := h', toks := tk }) :
    wpAny (model prog w) A (call (.ref 220) [.int x t0, .int place t1, .int many t2]) Q E s := by
  w_on
  refine wpAny_call ?_
  refine' startC (K := Mine.hd.heap_1 w.params) [] [(Str.ofString "x", .int x t0), (Str.ofString "place", .int place t1), (Str.ofString "many", .int many t2)] (d := 7) (u := 57) r (fun _ q => q) G hs trivial ?k4 ?k5 ?k7 ?k8 ?k9 ?_ ?c2 ?c3 ?c4
  (case k4 => k_is)
  (case k5 => k_is)
  (case k7 => exact BindsTo.of_eq rfl)
  (case k8 => rfl)
  (case k9 => decide)
  (case c2 => exact rfl)
  (case c3 => exact rfl)
  (case c4 => exact rfl)
  intro A' PQ PE h₁ h₀ L tail mean mg mb tk0 cells rA hQ1 hQ2 hfr Y hcn B F N X TT
  obtain ⟨oM, oP, oX, rfl, hoM, hoP, hoX⟩ := CellsAre.three Y
  have gX := N.get (tl (tl (.head _)))
  have gP := N.get (tl (.head _))
  have gM := N.get (.head _)
  have hoX' : oX.data = .cell (some (.int x t0)) := hoX
  have hoP' : oP.data = .cell (some (.int place t1)) := hoP
  have hoM' : oM.data = .cell (some (.int many t2)) := hoM
  have fX := hcn _ (tl (tl (.head _)))
  have fP := hcn _ (tl (.head _))
  have fM := hcn _ (.head _)
  simp only [List.cons_append, List.nil_append] at N
  have TR := topRead_of TT
  have kp1 : Kp s.heap h₁ := ((B.fin _ _ _ F N fun q hq => tl (tl (tl hq))).fresh (W' := []) (al3 (.inr fM) (.inr fP) (.inr fX))).kp
  have zL := ltN F.ns.lt
  have fr : ∀ a : Nat, @LE.le Nat _ L a → s.heap.get? a = none := fun a h => Heap.get?_none_of_le (Nat.le_trans B.ls h)
  w_strict (
  k_steps
  refine mod_int' (by decide) ?_
  dsimp only
  k_steps
  · refine mod_int' (by decide) ?_
    dsimp only
    k_steps
    refine floordiv_int (by decide) ?_
    dsimp only
    k_steps
    refine mod_int' (by decide) ?_
    dsimp only
    k_steps
    (rename Fr _ _ _ _ => F3); (rename News _ _ _ _ => N3)
    rename_i hx aT hA lA aB h3 lB
    have kp3 : Kp s.heap h3 := ((B.fin _ _ _ F3 N3 fun q hq => tl (tl (tl (tl (tl hq))))).fresh (W' := []) (al3 (.inr fM) (.inr fP) (.inr fX))).kp
    have gX3 := N3.get (tl (tl (tl (tl (.head _)))))
    have bL3 : n₀ ≤ h3.objs.size := Nat.le_trans hs (Nat.le_trans B.ls (Nat.le_of_lt F3.ns.lt))
    refine compV (hb := h3) (cl := [(Str.ofString "x", L + 1)]) (by with_unfolding_all rfl) rfl (by decide) ?_
    k_steps
    refine itDown ?_
    intro h2 I tk2 kp2 z2 z3 it2
    refine CompIs.mk I [I] [I] 9 _ _ (fun _ _ i ys _ => ∃ bs : List Bool, ys = bs.map Value.bool ∧ bs.length = i) (Nx.name (Walks.range (A := A') rA.hh I 8 (-1) 9) _ _) (by rw [sizeLine_eq]; decide) (show IsRangeIter h2 I (8 + ((0 : Nat) : Int) * -1) (((9 : Nat) : Int) - ((0 : Nat) : Int)) (-1) by simpa using it2) (List.forall_mem_singleton.mpr (Heap.lt_size it2)) kp2 z3 (List.forall_mem_singleton.mpr (Heap.get?_none_of_le z2)) (fun _ _ _ _ => ⟨[], rfl, rfl⟩) (fun _ _ _ _ _ _ q _ => q) ?_ ?_
    · rintro PT PE D C i v ys m h tk hC hV hcl gD hPT hi ⟨t, rfl⟩ ⟨bs, rfl, hbs⟩ hys hk hn
      refine asgL rfl rfl rfl hn fun h4 tk4 hn4 kb4 => ?_
      have nC : ∀ b o, h3.get? b = some o → (b : Nat) ≠ C := fun b o e => Nat.ne_of_lt (Nat.lt_of_lt_of_le (Heap.lt_size e) (Nat.le_trans z3 hC))
      have K4 : Kp h3 h4 := fun b o e => kb4 b o (nin1 (nC b o e)) (hk b o e)
      refine rebaseFK [(L + 1, oX)] G (kp3.trans K4) hn4 (Nat.le_trans bL3 (Nat.le_trans z3 hC)) (List.forall_mem_singleton.mpr ⟨K4 _ _ gX3, nC _ _ gX3, .inr fX⟩) fun h₀9 tail9 F9 N9 off9 lt9 X9 mean9 mg9 mb9 T9 hid9 bk9 => ?_
      simp only [List.cons_append, List.nil_append] at N9 F9
      have TR9 := topRead_of T9
      clear F3 N3
      refine test0 ?_
      dsimp only
      k_steps
      refine floordiv_int (by decide) ?_
      dsimp only
      k_steps
      refine pow_int_small (by exact Mine.q137 hi) (by exact Mine.q138) (by decide) ?_
      dsimp only
      k_steps
      obtain ⟨q1, q2⟩ := powB 2 (8 + (i : Int) * -1).toNat (by decide) (by decide) (by exact Mine.q139)
      refine floordiv_int q1 ?_ (Or.inl (q2 _))
      dsimp only
      k_steps
      refine mod_int' (by decide) ?_
      dsimp only
      k_steps
      exact hPT _ _ _ _ (kbCV kb4) hn4 (clsNil rfl) ⟨bs ++ [_], by rw [List.map_append]; rfl, by rw [List.length_append, hbs]; rfl⟩ (by rw [List.length_append]; exact Nat.succ_le_succ hys)
    · rintro D C ys h' tk n' hk hD zD gD ⟨bs, rfl, hbs⟩ hys hDC zC hCn h'' sb
      have nC : ∀ b o, h3.get? b = some o → b ≠ C := fun b o e => Nat.ne_of_lt (Nat.lt_of_lt_of_le (Heap.lt_size e) zC)
      have K5 : Kp h3 h'' := fun b o e => sb.extBut b o (nC b o e) (hk b o e)
      obtain ⟨F5, N5⟩ := led_new F3 N3 K5 zD (sb.extBut _ _ hDC gD)
      clear F3 N3
      refine add_lists F5 N5 (vs := [_]) (ws := bs.map Value.bool) (IsL.isList (N5.get (tl (.head _)))) (IsL.isList (N5.get (.head _))) ?_ (by rw [List.length_map, hbs, sizeLine_eq]; exact Nat.le_of_ble_eq_true rfl)
      intro h6 F6 N6
      have zL5 := ltN F5.ns.lt
      clear F5 N5
      dsimp only
      k_steps
      (rename Fr _ _ _ _ => F9); (rename News _ _ _ _ => N9)
      rename_i aD h9 lD
      obtain ⟨lA1, _⟩ := lA
      obtain ⟨_, _, _, _, lD1, _⟩ := lD
      have kp9 : Kp s.heap h9 := ((B.fin _ _ _ F9 N9 fun q hq => tl (tl (tl (tl (tl (tl (tl (tl hq)))))))).fresh (W' := []) (al3 (.inr fM) (.inr fP) (.inr fX))).kp
      exact hQ1 _ _ (ret _ _ aD _ aT _ _ _ _ _ _ [] (((x.fdiv 2048).fmod 2 == 1) :: bs) kp9 (Nat.le_trans B.ls (by exact Mine.q140 lD1)) (Nat.le_trans B.ls (by exact Mine.q140 lA1)) (Nat.le_trans B.ls (Nat.le_of_lt zL5)) (N9.get (.head _)) (N9.get (tl (tl (tl (tl (.head _)))))) .nil (N9.get (tl (.head _))) rfl ⟨Int.fmod_nonneg_of_pos _ (by decide), Int.le_of_lt_add_one (Int.fmod_lt_of_pos _ (by decide)), fun _ h => absurd h List.not_mem_nil, fun _ => ⟨by rw [List.length_cons, hbs], rfl⟩, fun h => absurd h (by exact Mine.q141 hx)⟩)
  · rename_i hx
    refine compAV (hb := h₁) (cl := [(Str.ofString "x", L + 1), (Str.ofString "many", L + 1 + 1 + 1)]) (by with_unfolding_all rfl) (by with_unfolding_all rfl) rfl (by decide) rfl rfl rfl F.ns ?_
    dsimp only
    k_steps
    refine floordiv_int (by decide) ?_
    dsimp only
    k_steps
    refine mod_int' (by decide) ?_
    dsimp only
    k_steps
    have q0 : 0 ≤ (x.fdiv 4).fmod 4 := Int.fmod_nonneg_of_pos _ (by decide)
    have q4 : (x.fdiv 4).fmod 4 < 4 := Int.fmod_lt_of_pos _ (by decide)
    refine itRange1 (n := (1 + (x.fdiv 4).fmod 4).toNat) (by exact Mine.q142 q0) (by exact Mine.q143 q4) ?_
    intro h2 I tk2 kp2 z2 z3 it2
    have hw : (1 + (x.fdiv 4).fmod 4).toNat ≤ 4 := by exact Mine.q144 q4
    have hw1 : 1 ≤ (1 + (x.fdiv 4).fmod 4).toNat := by exact Mine.q145 q0
    generalize (1 + (x.fdiv 4).fmod 4).toNat = wd at it2 hw hw1
    refine CompIs.mk I [I] [I] wd _ _ (fun _ _ i ys _ => ∃ ns : List Int, IntsAre ys ns ∧ (∀ t ∈ ns, 0 ≤ t ∧ t < many) ∧ ys.length = i) (Nx.name (Walks.range (A := A') rA.hh I 0 1 wd) _ _) (by rw [sizeLine_eq]; exact Mine.q146 hw) (by simpa using it2) (List.forall_mem_singleton.mpr (Heap.lt_size it2)) kp2 z3 (List.forall_mem_singleton.mpr (Heap.get?_none_of_le z2)) (fun _ _ _ _ => ⟨[], .nil, fun _ h => absurd h List.not_mem_nil, rfl⟩) (fun _ _ _ _ _ _ q _ => q) ?_ ?_
    · rintro PT PE D C i v ys m h tk hC hV hcl gD hPT hi ⟨t, rfl⟩ ⟨ns, hns, hrg, hln⟩ hys hk hn
      refine asgL rfl rfl rfl hn fun h4 tk4 hn4 kb4 => ?_
      have nC : ∀ b o, h₁.get? b = some o → (b : Nat) ≠ C := fun b o e => Nat.ne_of_lt (Nat.lt_of_lt_of_le (Heap.lt_size e) (Nat.le_trans z3 hC))
      have K4 : Kp h₁ h4 := fun b o e => kb4 b o (nin1 (nC b o e)) (hk b o e)
      refine rebaseFK [(L + 1, oX), (L + 1 + 1 + 1, oM)] G (kp1.trans K4) hn4 (Nat.le_trans hs (Nat.le_trans B.ls (Nat.le_trans (Nat.le_of_lt F.ns.lt) (Nat.le_trans z3 hC)))) (al2 ⟨K4 _ _ gX, nC _ _ gX, .inr fX⟩ ⟨K4 _ _ gM, nC _ _ gM, .inr fM⟩) fun h₀9 tail9 F9 N9 off9 lt9 X9 mean9 mg9 mb9 T9 hid9 bk9 => ?_
      simp only [List.cons_append, List.nil_append] at N9 F9
      have TR9 := topRead_of T9
      clear F N
      refine test0 ?_
      dsimp only
      k_steps
      refine floordiv_int (by decide) ?_
      dsimp only
      k_steps
      refine pow_int_small (by exact Mine.q147) (by exact Mine.q148 hw hi) (by omega) ?_
      dsimp only
      k_steps
      obtain ⟨q1, q2⟩ := powB many (0 + (i : Int) * 1).toNat hm.2 (by exact Mine.q149 hm.1) (by exact Mine.q150 hw hi)
      refine floordiv_int q1 ?_ (Or.inl (q2 _))
      dsimp only
      k_steps
      refine mod_int' (by exact Mine.q151 hm.1) ?_
      dsimp only
      k_steps
      have hmp : (0 : Int) < many := by exact Mine.q152 hm.1
      exact hPT _ _ _ _ (kbCV kb4) hn4 (clsNil rfl) ⟨ns ++ [_], hns.append (.cons _ _ .nil), fun t ht => by
        rcases List.mem_append.mp ht with e | e
        · exact hrg t e
        · rw [List.mem_singleton.mp e]
          exact ⟨Int.fmod_nonneg_of_pos _ hmp, Int.fmod_lt_of_pos _ hmp⟩, by rw [List.length_append, hln]; rfl⟩ (by rw [List.length_append]; exact Nat.succ_le_succ hys)
    · rintro D C ys h' tk n' hk hD zD gD ⟨ns, hns, hrg, hln⟩ hys hDC zC hCn
      refine ⟨hk, zC, fun h'' tk' hn'' kb'' => ?_⟩
      have zLC : (L : Nat) ≤ C := Nat.le_trans (Nat.le_of_lt F.ns.lt) zC
      have K1 : Kp s.heap h'' := kp_new (kp1.trans hk) kb'' (al2 B.lf (fr C zLC))
      have nDL : D ≠ L := Nat.ne_of_gt (Nat.lt_of_lt_of_le F.ns.lt zD)
      have gD' := kb'' _ _ (nin2 nDL hDC) gD
      have nXL := (N _ (tl (tl (.head _)))).2.1
      have nPL := (N _ (tl (.head _))).2.1
      have nC : ∀ b o, h₁.get? b = some o → b ≠ C := fun b o e => Nat.ne_of_lt (Nat.lt_of_lt_of_le (Heap.lt_size e) zC)
      have gX' := kb'' _ _ (nin2 nXL (nC _ _ gX)) (hk _ _ gX)
      have gP' := kb'' _ _ (nin2 nPL (nC _ _ gP)) (hk _ _ gP)
      refine rebaseFK [(D, W.listOf ys.toArray n'), (L + 1 + 1, oP), (L + 1, oX)] G K1 hn'' B.ln (al3 ⟨gD', nDL, .inr (fr D (Nat.le_trans (Nat.le_of_lt F.ns.lt) zD))⟩ ⟨gP', nPL, .inr fP⟩ ⟨gX', nXL, .inr fX⟩) fun h₀9 tail9 F9 N9 off9 lt9 X9 mean9 mg9 mb9 T9 hid9 bk9 => ?_
      simp only [List.cons_append, List.nil_append] at N9 F9
      have TR9 := topRead_of T9
      have zL9 := ltN F9.ns.lt
      have bk10 := fun h' m' news' => bk9 h' m' news'
      clear F N X TT TR
      dsimp only
      k_steps
      refine mod_int' (by decide) ?_
      dsimp only
      k_steps
      (rename Fr _ _ _ _ => F3); (rename News _ _ _ _ => N3)
      refine compV (hb := h'') (cl := [(Str.ofString "x", L + 1), (Str.ofString "place", L + 1 + 1)]) (by with_unfolding_all rfl) rfl (by decide) ?_
      k_steps
      refine wpAny_pyIter_list (IsL.isList gD') ?_
      have kpI : Kp h'' (h''.push (liObj D)) := fun b o e => Heap.get?_push_of_some _ e
      have zaD := Heap.lt_size gD'
      have zI : h''.objs.size < (h''.push (liObj D)).objs.size := by rw [Heap.size_push]; exact Nat.lt_succ_self _
      have eSz : ys.toArray.size = wd := by rw [List.size_toArray, hln]
      refine CompIs.mk h''.objs.size [h''.objs.size, D] [h''.objs.size] ys.toArray.size _ _ (fun _ _ i zs _ => ∃ ms : List Int, IntsAre zs ms ∧ (∀ t ∈ ms, 0 ≤ t ∧ t < many) ∧ zs.length = i) (Nx.name (Walks.list (A := A') rA.hh _ _ (Nat.ne_of_lt zaD) ys.toArray) _ _) (by rw [sizeLine_eq]; exact Mine.q153 hw eSz) ⟨⟨_, Heap.get?_push_size _ rfl, rfl, rfl⟩, IsL.isList (kpI _ _ gD')⟩ (al2 zI (Nat.lt_trans zaD zI)) kpI (Nat.le_of_lt zI) (List.forall_mem_singleton.mpr (Heap.get?_none_of_le (Nat.le_refl _))) (fun _ _ _ _ => ⟨[], .nil, fun _ h => absurd h List.not_mem_nil, rfl⟩) (fun _ _ _ _ _ _ q _ => q) ?_ ?_
      · rintro PT2 PE2 D2 C2 i v zs m2 h5 tk5 hC2 hV2 hcl2 gD2 hPT2 hi hv ⟨ms, hms, hrm, hlm⟩ hzs hk2 hn2
        obtain ⟨f, tf, rfl, hfm⟩ := ints_mem (i := i) hns ((List.getElem?_toArray ..).symm.trans hv)
        have hf := hrg f hfm
        refine asgL rfl rfl rfl hn2 fun h6 tk6 hn6 kb6 => ?_
        have zC2 : (h''.objs.size : Nat) ≤ C2 := Nat.le_trans (Nat.le_of_lt zI) hC2
        have nC2 : ∀ b o, h''.get? b = some o → (b : Nat) ≠ C2 := fun b o e => Nat.ne_of_lt (Nat.lt_of_lt_of_le (Heap.lt_size e) zC2)
        have K6 : Kp h'' h6 := fun b o e => kb6 b o (nin1 (nC2 b o e)) (hk2 b o e)
        refine rebaseFK [(L + 1 + 1, oP), (L + 1, oX)] G (K1.trans K6) hn6 (Nat.le_trans B.ln (Nat.le_trans (Nat.le_of_lt zL9) zC2)) (al2 ⟨K6 _ _ gP', nC2 _ _ gP', .inr fP⟩ ⟨K6 _ _ gX', nC2 _ _ gX', .inr fX⟩) fun h₀9 tail9 F9 N9 off9 lt9 X9 mean9 mg9 mb9 T9 hid9 bk9 => ?_
        simp only [List.cons_append, List.nil_append] at N9 F9
        have TR9 := topRead_of T9
        clear F3 N3
        have fin : ∀ (y : Int) t, 0 ≤ y ∧ y < many → ∀ tk, PT2 (zs ++ [.int y t]) { s with heap := h6, toks := tk } := fun y t hy tk => hPT2 _ _ _ _ (kbCV kb6) hn6 (clsNil rfl) ⟨ms ++ [y], hms.append (.cons _ _ .nil), fun t ht => by
          rcases List.mem_append.mp ht with e | e
          · exact hrm t e
          · rw [List.mem_singleton.mp e]; exact hy, by rw [List.length_append, hlm]; rfl⟩ (by rw [List.length_append]; exact Nat.succ_le_succ hzs)
        refine test0 ?_
        dsimp only
        k_steps
        · exact fin _ _ hf _
        · refine floordiv_int (by decide) ?_
          dsimp only
          k_steps
          refine mod_int' (by decide) ?_
          dsimp only
          k_steps
          · exact fin _ _ hf _
          · rename_i hp0 _
            refine mod_int' hp0 ?_
            dsimp only
            k_steps
            have hpp : (0 : Int) < place := by exact Mine.q154 hp0
            exact fin _ _ ⟨Int.fmod_nonneg_of_pos _ hpp, by have := Int.fmod_lt_of_pos f hpp; exact Mine.q155 hp this⟩ _
      · rintro D2 C2 zs h5 tk5 n5 hk2 hD2 zD2 gD2 ⟨ms, hms, hrm, hlm⟩ hzs hDC2 zC2 hCn2 h6 sb6
        have K6 : Kp h'' h6 := fun b o e => sb6.extBut b o (Nat.ne_of_lt (Nat.lt_of_lt_of_le (Heap.lt_size e) zC2)) (hk2 b o e)
        obtain ⟨F5, N5⟩ := led_new F3 N3 K6 zD2 (sb6.extBut _ _ hDC2 gD2)
        clear F3 N3
        dsimp only
        k_steps
        (rename Fr _ _ _ _ => F7); (rename News _ _ _ _ => N7)
        rename_i aE hE lE aD h9 lD
        obtain ⟨_, _, _, lE1, _⟩ := lE
        obtain ⟨lD1, _⟩ := lD
        have kp9 : Kp s.heap h9 := kp_new K1 (bk10 _ _ _ F7 N7 fun q hq => tl (tl (tl (tl (tl (tl hq)))))) (al4 B.lf (fr D (Nat.le_trans (Nat.le_of_lt zL) zD)) fP fX)
        have e1 : ms.length = wd := by rw [← hms.length, hlm, eSz]
        exact hQ1 _ _ (ret _ _ aD _ D2 _ aE _ _ _ _ ms [] kp9 (Nat.le_trans B.ls (by omega)) (Nat.le_trans B.ls (Nat.le_trans (Nat.le_of_lt zL9) zD2)) (Nat.le_trans B.ls (by exact Mine.q156 ‹_›)) (N7.get (.head _)) (N7.get (tl (tl (.head _)))) hms (N7.get (tl (.head _))) rfl ⟨Int.fmod_nonneg_of_pos _ (by decide), Int.le_of_lt_add_one (Int.fmod_lt_of_pos _ (by decide)), hrm, fun h => absurd h hx, fun _ => by rw [e1]; exact ⟨hw1, hw⟩⟩))
end Mine
end
section
open PySem PySem.W PyProof.Rows PySem.Calls PySem.Spec
set_option Elab.async false
set_option maxRecDepth 100000
set_option maxHeartbeats 4000000
namespace Mine
/-! the sort's asks, answered by distinct keys -/
structure Pm (n : Nat) (p : Array Nat) : Prop where
  sz : p.size = n
  lt : ∀ i, i < n → p.getD i 0 < n
  inj : ∀ i, i < n → ∀ j, j < n → p.getD i 0 = p.getD j 0 → i = j
theorem int_or (a b : Int) : a < b ∨ b ≤ a := by exact Mine.q157
theorem getD_q (p : Array Nat) (i : Nat) : p.getD i 0 = (p[i]?).getD 0 := by simp
theorem Pm.map {n : Nat} {p q : Array Nat} (h : Pm n p) (σ : Nat → Nat) (hz : q.size = n) (he : ∀ k, k < n → q.getD k 0 = p.getD (σ k) 0) (hl : ∀ k, k < n → σ k < n) (hi : ∀ i, i < n → ∀ j, j < n → σ i = σ j → i = j) : Pm n q :=
  ⟨hz, fun i a => by rw [he i a]; exact h.lt _ (hl i a), fun i a j b e => by
    rw [he i a, he j b] at e
    exact hi i a j b (h.inj _ (hl i a) _ (hl j b) e)⟩
theorem rev_at {p : Array Nat} {m : Nat} (hm : m ≤ p.size) (k : Nat) : (kas_rev p 0 m).getD k 0 = p.getD (if k < m then m - 1 - k else k) 0 := by
  have := getElem?_mirror_all (xs := p) (i := 0) hm k
  rw [getD_q, getD_q]
  show (mirror p 0 m ((m - 0) / 2))[k]?.getD 0 = _
  rw [this]
  by_cases h : k < m
  · rw [if_pos ⟨Nat.zero_le _, h⟩, if_pos h, Nat.zero_add]
  · rw [if_neg fun z => h z.2, if_neg h]
theorem bub_at {p : Array Nat} {k l : Nat} (hk : k < p.size) (hl : l ≤ k) (i : Nat) : (bubble p k (k - l)).getD i 0 = p.getD (if i = l then k else if l < i ∧ i ≤ k then i - 1 else i) 0 := by
  have := getElem?_bubble hk (k - l) (Nat.sub_le _ _) i
  rw [show k - (k - l) = l by exact Mine.q158 hl] at this
  rw [getD_q, getD_q, this]
  split
  · rfl
  · split <;> rfl
section
variable {n : Nat} {key : Nat → Int} {cmp : Nat → Nat → (Bool → Shared → Prop) → Shared → Prop} {P : Shared → Prop}
/-- how the asks are answered -/
noncomputable def Ans (n : Nat) (key : Nat → Int) (cmp : Nat → Nat → (Bool → Shared → Prop) → Shared → Prop) (P : Shared → Prop) : Prop :=
  ∀ i j (C : Bool → Shared → Prop) s, i < n → j < n → i ≠ j → P s → (∀ s', P s' → C (decide (key i < key j)) s') → cmp i j C s
noncomputable def Up (key : Nat → Int) (p : Array Nat) (m : Nat) : Prop := ∀ i j, i < j → j < m → key (p.getD i 0) < key (p.getD j 0)
noncomputable def Dn (key : Nat → Int) (p : Array Nat) (m : Nat) : Prop := ∀ i j, i < j → j < m → key (p.getD j 0) < key (p.getD i 0)
variable (hc : Ans n key cmp P) (hk : ∀ i, i < n → ∀ j, j < n → key i = key j → i = j)
include hc hk
theorem asc_ok {p : Array Nat} (hp : Pm n p) : ∀ (f m : Nat) (s : Shared) (Q : Nat → Shared → Prop), 1 ≤ m → m + f ≤ n → Up key p m → P s →
    (∀ m' s', m ≤ m' → m' ≤ m + f → Up key p m' → (m' < m + f → key (p.getD m' 0) < key (p.getD (m' - 1) 0)) → P s' → Q m' s') → (kas_asc p f m).kasWp cmp Q s
  | 0, m, s, Q, h1, hn, hu, hs, hQ => hQ m s (Nat.le_refl _) (Nat.le_refl _) hu (fun h => absurd h (Nat.lt_irrefl _)) hs
  | f + 1, m, s, Q, h1, hn, hu, hs, hQ => by
    refine hc _ _ _ _ (hp.lt _ (by exact Mine.q159 hn)) (hp.lt _ (by exact Mine.q160 hn)) (fun e => by have := hp.inj m (by exact Mine.q159 hn) (m - 1) (by exact Mine.q160 hn) e; exact Mine.q161 h1 this) hs fun s' hs' => ?_
    by_cases c : key (p.getD m 0) < key (p.getD (m - 1) 0)
    · rw [decide_eq_true c]
      exact hQ m s' (Nat.le_refl _) (Nat.le_add_right _ _) hu (fun _ => c) hs'
    · rw [decide_eq_false c]
      refine asc_ok hp f (m + 1) s' Q (by exact Mine.q162) (by exact Mine.q163 hn) (fun i j hi hj => ?_) hs' fun m' s'' a b u d q => hQ m' s'' (by exact Mine.q164 a) (by exact Mine.q165 b) u (fun z => d (by exact Mine.q166 z)) q
      have hlast : key (p.getD (m - 1) 0) < key (p.getD m 0) := by
        rcases int_or (key (p.getD (m - 1) 0)) (key (p.getD m 0)) with q | q
        · exact q
        · have e : key (p.getD m 0) = key (p.getD (m - 1) 0) := by exact Mine.q167 c q
          have := hp.inj m (by exact Mine.q159 hn) (m - 1) (by exact Mine.q160 hn) (hk _ (hp.lt _ (by exact Mine.q159 hn)) _ (hp.lt _ (by exact Mine.q160 hn)) e)
          exact Mine.q168 h1 this
      by_cases e : j = m
      · subst e
        by_cases e2 : i = j - 1
        · rw [e2]; exact hlast
        · exact Int.lt_trans (hu i (j - 1) (by exact Mine.q169 hi e2) (by exact Mine.q170 h1)) hlast
      · exact hu i j hi (by exact Mine.q171 hj e)
theorem desc_ok {p : Array Nat} (hp : Pm n p) : ∀ (f m : Nat) (s : Shared) (Q : Array Nat × Nat × Nat → Shared → Prop), 1 ≤ m → m + f ≤ n → Dn key p m → P s →
    (∀ m' s', m ≤ m' → m' ≤ m + f → Dn key p m' → P s' → Q (p, m', 0) s') → (kas_desc f p m 0).kasWp cmp Q s
  | 0, m, s, Q, h1, hn, hu, hs, hQ => hQ m s (Nat.le_refl _) (Nat.le_refl _) hu hs
  | f + 1, m, s, Q, h1, hn, hu, hs, hQ => by
    have hne : p.getD m 0 ≠ p.getD (m - 1) 0 := fun e => by have := hp.inj m (by exact Mine.q159 hn) (m - 1) (by exact Mine.q160 hn) e; exact Mine.q161 h1 this
    have hl := hp.lt m (by exact Mine.q159 hn)
    have hl' := hp.lt (m - 1) (by exact Mine.q160 hn)
    refine hc _ _ _ _ hl hl' hne hs fun s' hs' => ?_
    by_cases c : key (p.getD m 0) < key (p.getD (m - 1) 0)
    · rw [decide_eq_true c]
      refine desc_ok hp f (m + 1) s' Q (by exact Mine.q162) (by exact Mine.q163 hn) (fun i j hi hj => ?_) hs' fun m' s'' a b u q => hQ m' s'' (by exact Mine.q164 a) (by exact Mine.q165 b) u q
      by_cases e : j = m
      · subst e
        by_cases e2 : i = j - 1
        · rw [e2]; exact c
        · exact Int.lt_trans c (hu i (j - 1) (by exact Mine.q169 hi e2) (by exact Mine.q170 h1))
      · exact hu i j hi (by exact Mine.q171 hj e)
    · rw [decide_eq_false c]
      refine hc _ _ _ _ hl' hl hne.symm hs' fun s'' hs'' => ?_
      have : key (p.getD (m - 1) 0) < key (p.getD m 0) := by
        rcases int_or (key (p.getD (m - 1) 0)) (key (p.getD m 0)) with q | q
        · exact q
        · exact absurd (hk _ hl _ hl' (by exact Mine.q167 c q)) hne
      rw [decide_eq_true this]
      exact hQ m s'' (Nat.le_refl _) (by exact Mine.q172) hu hs''
theorem tail_ok {p : Array Nat} (hp : Pm n p) {m : Nat} {s : Shared} {Q : Nat × Array Nat → Shared → Prop} (h1 : 1 ≤ m) (hm : m ≤ n) (hd : Dn key p m) (hs : P s)
    (hQ : ∀ m' q s', 1 ≤ m' → m' ≤ n → Pm n q → Up key q m' → P s' → Q (m', q) s') : (kas_tail3 m n p).kasWp cmp Q s := by
  unfold kas_tail3
  rw [KasT.kasWp_bind]
  have hz : m ≤ p.size := by rw [hp.sz]; exact hm
  have hq : Pm n (kas_rev p 0 m) := hp.map (fun k => if k < m then m - 1 - k else k) ((mirror_size _ _ _ _).trans hp.sz) (fun k _ => rev_at hz k) (fun k hk => by split <;> (first | exact Mine.q173 hm ‹_› | omega))
    (fun i hi j hj e => by split at e <;> split at e <;> (first | exact Mine.q174 ‹_› ‹_› e | exact Mine.q175 ‹_› ‹_› e | exact Mine.q176 ‹_› ‹_› e | omega))
  refine asc_ok hc hk hq (n - m) m s _ h1 (by exact Mine.q177 hm) (fun i j hi hj => ?_) hs fun m' s' a b u _ q => hQ m' _ s' (by exact Mine.q178 h1 a) (by exact Mine.q179 hm b) hq u q
  rw [rev_at hz, rev_at hz, if_pos (by exact Mine.q180 hi hj), if_pos hj]
  exact hd _ _ (by exact Mine.q181 hi hj) (by exact Mine.q182 hj)
theorem count_ok {p : Array Nat} (hp : Pm n p) (hn : 1 ≤ n) {s : Shared} {Q : Nat × Array Nat → Shared → Prop} (hs : P s)
    (hQ : ∀ m' q s', 1 ≤ m' → m' ≤ n → Pm n q → Up key q m' → P s' → Q (m', q) s') : (kas_count n p).kasWp cmp Q s := by
  unfold kas_count
  rw [KasT.kasWp_bind]
  refine asc_ok hc hk hp (n - 1) 1 s _ (Nat.le_refl _) (by exact Mine.q183 hn) (fun i j hi hj => absurd hj (by exact Mine.q184 hi)) hs fun m s' a b u d q => ?_
  by_cases e : m = n
  · rw [if_pos (by simpa using e)]
    exact hQ m p s' a (by exact Mine.q185 e) hp u q
  · rw [if_neg (by simpa using e)]
    by_cases e1 : m > 1
    · rw [if_pos e1]
      refine hc _ _ _ _ (hp.lt _ (by exact Mine.q186 hn)) (hp.lt _ (by exact Mine.q187 hn b)) (fun z => by have := hp.inj 0 (by exact Mine.q186 hn) (m - 1) (by exact Mine.q187 hn b) z; exact Mine.q188 e1 this) q fun s'' q' => ?_
      rw [decide_eq_true (u 0 (m - 1) (by exact Mine.q189 e1) (by exact Mine.q190 e1))]
      exact hQ m p s'' a (by exact Mine.q191 hn b) hp u q'
    · rw [if_neg e1]
      obtain rfl : m = 1 := by exact Mine.q192 a e1
      unfold kas_descPart
      rw [KasT.kasWp_bind]
      refine desc_ok hc hk hp _ 2 s' _ (by exact Mine.q193) (by exact Mine.q194 hn e) (fun i j hi hj => ?_) q fun m' s'' a' b' u' q' => ?_
      · obtain rfl : j = 1 := by exact Mine.q195 hi hj
        obtain rfl : i = 0 := by exact Mine.q196 hi
        exact d (by exact Mine.q197 hn e)
      · rw [if_neg (by simp)]
        exact tail_ok hc hk hp (m := m') (by exact Mine.q149 a') (by have := hn; exact Mine.q198 hn e b') u' q' hQ
theorem place_ok {p : Array Nat} (hp : Pm n p) {k : Nat} (hkn : k < n) (hu : Up key p k) : ∀ (f l r : Nat) (s : Shared) (Q : Nat → Shared → Prop), l ≤ r → r ≤ k → r - l ≤ f → (∀ i, i < l → key (p.getD i 0) < key (p.getD k 0)) → (∀ i, r ≤ i → i < k → key (p.getD k 0) < key (p.getD i 0)) → P s →
    (∀ l' s', l' ≤ k → (∀ i, i < l' → key (p.getD i 0) < key (p.getD k 0)) → (∀ i, l' ≤ i → i < k → key (p.getD k 0) < key (p.getD i 0)) → P s' → Q l' s') → (kas_place p k f l r).kasWp cmp Q s
  | 0, l, r, s, Q, h1, h2, h3, h4, h5, hs, hQ => hQ l s (by exact Mine.q199 h1 h2) h4 (fun i a b => h5 i (by exact Mine.q200 h3 a) b) hs
  | f + 1, l, r, s, Q, h1, h2, h3, h4, h5, hs, hQ => by
    show (if l ≥ r then KasT.ret l else _).kasWp cmp Q s
    by_cases e : l ≥ r
    · rw [if_pos e]
      exact hQ l s (by exact Mine.q199 h1 h2) h4 (fun i a b => h5 i (by exact Mine.q201 e a) b) hs
    · rw [if_neg e]
      have hm : (l + r) / 2 < k := by exact Mine.q202 h2 e
      have hne : p.getD k 0 ≠ p.getD ((l + r) / 2) 0 := fun z => by have := hp.inj k hkn _ (by exact Mine.q203 hkn hm) z; exact Mine.q204 hm this
      refine hc _ _ _ _ (hp.lt k hkn) (hp.lt _ (by exact Mine.q203 hkn hm)) hne hs fun s' hs' => ?_
      by_cases c : key (p.getD k 0) < key (p.getD ((l + r) / 2) 0)
      · rw [decide_eq_true c]
        refine place_ok hp hkn hu f l _ s' Q (by exact Mine.q205 e) (by exact Mine.q206 hm) (by exact Mine.q207 h3) h4 (fun i a b => ?_) hs' hQ
        by_cases z : i = (l + r) / 2
        · rw [z]; exact c
        · exact Int.lt_trans c (hu _ _ (by exact Mine.q208 a z) b)
      · rw [decide_eq_false c]
        have c' : key (p.getD ((l + r) / 2) 0) < key (p.getD k 0) := by
          rcases int_or (key (p.getD ((l + r) / 2) 0)) (key (p.getD k 0)) with q | q
          · exact q
          · exact absurd (hk _ (hp.lt k hkn) _ (hp.lt _ (by exact Mine.q203 hkn hm)) (by exact Mine.q167 c q)) hne
        refine place_ok hp hkn hu f _ r s' Q (by exact Mine.q209 e) h2 (by exact Mine.q210 h3) (fun i a => ?_) h5 hs' hQ
        by_cases z : i = (l + r) / 2
        · rw [z]; exact c'
        · exact Int.lt_trans (hu _ _ (by exact Mine.q211 a z) hm) c'
theorem bin_ok : ∀ (f k : Nat) (p : Array Nat) (s : Shared) (Q : Array Nat → Shared → Prop), Pm n p → f + k = n → Up key p k → P s → (∀ q s', Pm n q → Up key q n → P s' → Q q s') → (kas_bin f p k).kasWp cmp Q s
  | 0, k, p, s, Q, hp, hf, hu, hs, hQ => hQ p s hp (by rw [← hf, Nat.zero_add]; exact hu) hs
  | f + 1, k, p, s, Q, hp, hf, hu, hs, hQ => by
    show ((kas_place p k k 0 k).bind fun l => kas_bin f (bubble p k (k - l)) (k + 1)).kasWp cmp Q s
    rw [KasT.kasWp_bind]
    have hkn : k < n := by exact Mine.q212 hf
    have hkz : k < p.size := by rw [hp.sz]; exact hkn
    refine place_ok hc hk hp hkn hu k 0 k s _ (Nat.zero_le _) (Nat.le_refl _) (by exact Mine.q213) (fun i h => absurd h (by exact Mine.q214)) (fun i a b => absurd a (by exact Mine.q215 b)) hs fun l s' hl a b hs' => ?_
    have bz : (bubble p k (k - l)).size = n := (bubble_size _ _ _).trans hp.sz
    refine bin_ok f (k + 1) _ s' Q (hp.map (fun i => if i = l then k else if l < i ∧ i ≤ k then i - 1 else i) bz (fun i _ => bub_at hkz hl i) (fun i hi => by split <;> (try split) <;> omega) (fun i hi j hj e => by split at e <;> split at e <;> (try split at e) <;> (try split at e) <;> omega)) (by exact Mine.q216 hf) (fun i j hi hj => ?_) hs' hQ
    rw [bub_at hkz hl, bub_at hkz hl]
    by_cases e1 : i = l
    · rw [if_pos e1, if_neg (by exact Mine.q217 hi e1), if_pos (by exact Mine.q218 hi hj e1)]
      exact b _ (by exact Mine.q219 hi e1) (by exact Mine.q220 hi hj)
    · rw [if_neg e1]
      by_cases e2 : j = l
      · rw [if_pos e2, if_neg (by exact Mine.q221 hi e2)]
        exact a _ (by exact Mine.q84 hi e2)
      · rw [if_neg e2]
        split <;> split <;> exact hu _ _ (by omega) (by omega)
theorem sort_ok (hn : 1 ≤ n) {s : Shared} {Q : Array Nat → Shared → Prop} (hs : P s) (hQ : ∀ q s', Pm n q → Up key q n → P s' → Q q s') : (kas_sort n).kasWp cmp Q s := by
  unfold kas_sort
  rw [KasT.kasWp_bind]
  have h0 : ∀ i, i < n → (List.toArray (List.range n)).getD i 0 = i := fun i hi => by
    rw [getD_q, List.getElem?_toArray, List.getElem?_range hi]; rfl
  refine count_ok hc hk ⟨by simp, fun i hi => by rw [h0 i hi]; exact hi, fun i hi j hj e => by rwa [h0 i hi, h0 j hj] at e⟩ hn hs fun m q s' a b hp hu hs' => ?_
  by_cases c : m < n
  · rw [if_pos c]
    have : max m 1 = m := by exact Mine.q223 a
    rw [this]
    exact bin_ok hc hk _ _ q s' Q hp (by exact Mine.q224 c) hu hs' hQ
  · rw [if_neg c]
    obtain rfl : m = n := by exact Mine.q225 b c
    exact hQ q s' hp hu hs'
end
end Mine
end
section
open PySem PySem.W PyProof.Rows PySem.Calls PySem.Spec PySem.MeetsSeq3 PySem.MeetsSeq
set_option Elab.async false
set_option maxRecDepth 100000
set_option maxHeartbeats 4000000
namespace Mine
theorem lt_loop (l b : Addr) (items items2 : Array Value) (i j : Int) (t u : Tok) (n n2 : Nat) (hi : items[0]? = some (.int i t)) (hj : items2[0]? = some (.int j u)) (hij : i ≠ j) :
    Meets (Builtin.«list.__lt__» ⟨[.ref l, .ref b], []⟩)
      (fun _ R s => s.heap.get? l = some { cls := .type "list", dict := none, data := .seq items n, slots := #[] } ∧ s.heap.get? b = some { cls := .type "list", dict := none, data := .seq items2 n2, slots := #[] } ∧
        R (.ok (.ret (.bool (decide (i < j))))) s) := by
  intro prog w A R s h
  obtain ⟨hp, g, d, tk, os⟩ := s; obtain ⟨hl, hb, h⟩ := h
  have f3 := AutoSeq1.sub_list_list
  wp_walk using AutoSeq1.wpAny_loadPart' hl, AutoSeq1.wpAny_loadPart' hb
  refine ⟨plainId_quiet plain_eq_loop _, codeAny_builtin entry_eq_loop ?_⟩
  rw [Around.under_plainId plain_eq_loop _]
  wp_walk using AutoSeq1.wpAny_loadPart' hl, AutoSeq1.wpAny_loadPart' hb
  have e1 : items[Int.toNat 0]? = some (.int i t) := hi
  have e2 : items2[Int.toNat 0]? = some (.int j u) := hj
  rw [e1, e2]
  refine wpAny_bind (EqGives.int i j t u prog w _ _ _ _ ?_)
  rw [beq_eq_false_iff_ne.mpr hij]
  wp_walk using AutoSeq1.wpAny_loadPart' hl, AutoSeq1.wpAny_loadPart' hb
  rw [e1, e2]
  refine wpAny_bind (m := richCompare .Lt (.int i t) (.int j u)) (show wpAny (model prog w) A.in1 (compareOp .Lt (.int i t) (.int j u)) _ _ _ from lt_int ?_)
  exact wpAny_pure h
section
variable {prog : Program} {w : World} {A : Around} {E : Value → Shared → Prop} {s : Shared}
theorem oneLtL {l b : Addr} {items items2 : Array Value} {i j : Int} {t u : Tok} {n n2 : Nat} {Q : Bool → Shared → Prop} (hl : s.heap.get? l = some (W.listOf items n)) (hb : s.heap.get? b = some (W.listOf items2 n2)) (hi : items[0]? = some (.int i t)) (hj : items2[0]? = some (.int j u)) (hij : i ≠ j)
    (hu : A.units < cLine) (h : Q (decide (i < j)) s) : wpAny (model prog w) A (oneLt' true (.ref l) (.ref b)) Q E s := by
  rw [oneLt'_eq]
  simp only [if_true]
  refine wpAny_bind (wpAny_cRoomFor hu ?_)
  refine wpAny_bind (wpAny_callSpecialIfBound?_slot ⟨_, hl, rfl⟩ PySem.F.slot_list_lt (call_meets PySem.F.slot_list_lt ⟨_, hl, rfl⟩ PySem.F.entry_list_lt (PySem.F.args_list_lt_2 _ _) (lt_loop l b items items2 i j t u n n2 hi hj hij) ⟨hl, hb, ?_⟩))
  exact wpAny_truthy_bool h
/-- sorted of a list of lists whose first items are ints, all different -/
theorem sortL {h₀ : Heap} {L l : Addr} {m : Str → Option Value} {news : List (Addr × Obj)} {vs : List Value} {key : Nat → Int} {Q : Value → Shared → Prop} (F : Fr h₀ L s.heap m) (N : News h₀ L s.heap news) (hl : s.heap.IsList l vs.toArray) (h2 : 2 ≤ vs.length) (h64 : vs.length < 64) (hu : A.in1.in1.units < cLine)
    (hv : ∀ i, i < vs.length → ∃ (a : Addr) (items : Array Value) (n : Nat) (t : Tok), vs[i]? = some (.ref a) ∧ items[0]? = some (.int (key i) t) ∧ ∀ h, Fr h₀ L h m → News h₀ L h news → h.get? a = some (W.listOf items n)) (hk : ∀ i, i < vs.length → ∀ j, j < vs.length → key i = key j → i = j)
    (h : ∀ h' D e p, Pm vs.length p → Up key p vs.length → Fr h₀ L h' m → News h₀ L h' ((D, W.listOf (List.toArray (p.toList.map fun i => vs.getD i Value.none)) e) :: news) → (∀ q ∈ news, q.1 < D) → Q (.ref D) { s with heap := h' }) :
    wpAny (model prog w) A (call (.builtin "sorted") [.ref l]) Q E s := by
  refine kas_sorted (T := .type "list") F N hl h2 h64 (fun h' F' N' v hm => ?_) rfl fun D e1 h' F' N' lD => ?_
  · obtain ⟨i, hi⟩ := List.getElem?_of_mem hm
    obtain ⟨a, items, n, t, q, _, r⟩ := hv i (List.getElem?_eq_some_iff.mp hi).1
    obtain rfl : Value.ref a = v := Option.some.inj (q.symm.trans hi)
    exact (Looks.ld (r _ F' N')).andThen .now
  · refine sort_ok (n := vs.length) (key := key) (P := fun s' => s' = { s with heap := h' }) (fun i j C s' hi hj hij hs hC => ?_) hk (by exact Mine.q149 h2) rfl fun p s' hp hu' hs' => ?_
    · subst hs
      obtain ⟨a, items, n, t, q, q2, r⟩ := hv i hi
      obtain ⟨b, items', n', t', q', q2', r'⟩ := hv j hj
      unfold kas_ask
      rw [List.getD_eq_getElem?_getD, List.getD_eq_getElem?_getD, q, q', keyLt'_oneType]
      have N2 : News h₀ L h' news := fun p hp => N' p (.tail _ hp)
      exact oneLtL (r _ F' N2) (r' _ F' N2) q2 q2' (fun z => hij (hk i hi j hj z)) hu (hC _ rfl)
    · subst hs'
      refine KasFin.intro F' N' (g := fun o => (D, o) :: news) ?_ fun h'' c F'' N'' => h h'' D c p hp hu' F'' N'' lD
      k_updF
end
end Mine
end
section
open PySem PySem.W PyProof.Rows PySem.Calls PySem.Spec
set_option Elab.async false
set_option maxRecDepth 100000
set_option maxHeartbeats 4000000
namespace Mine
theorem nd_lenA {α : Type} [DecidableEq α] : ∀ {l m : List α}, l.Nodup → (∀ x ∈ l, x ∈ m) → l.length ≤ m.length
  | [], _, _, _ => Nat.zero_le _
  | a :: l, m, h, hs => by
    have ha := hs a (.head _)
    have := nd_lenA (m := m.erase a) (List.nodup_cons.mp h).2 fun x hx => (List.mem_erase_of_ne (show x ≠ a from fun e => (List.nodup_cons.mp h).1 (e ▸ hx))).mpr (hs x (.tail _ hx))
    rw [List.length_erase_of_mem ha] at this
    have := List.length_pos_of_mem ha
    rw [List.length_cons]; exact Mine.q28 ‹_› this
theorem ns_noL {h : Heap} {L : Addr} {m : Str → Option Value} (hn : h.Ns L m) (xs : Array Value) (n : Nat) : h.get? L ≠ some (W.listOf xs n) := fun e => by
  obtain ⟨o, es, ep, ho, hd, _⟩ := hn.noRefKey
  rw [e] at ho
  cases ho
  cases hd
/-- a list of pairs as it lies -/
noncomputable def SgAt (h : Heap) (us : List Value) (K : List Int) (f : Int → Str) : Prop := us.length = K.length ∧ ∀ (i : Nat) (p : Int), K[i]? = some p → ∃ (a : Addr) (n : Nat) (t t' : Tok), us[i]? = some (.ref a) ∧ h.get? a = some (W.listOf #[.int p t, .str (f p) t'] n)
theorem SgAt.up {h h' : Heap} {us : List Value} {K : List Int} {f : Int → Str} (H : SgAt h us K f) (kl : ∀ a xs n, h.get? a = some (W.listOf xs n) → h'.get? a = some (W.listOf xs n)) : SgAt h' us K f :=
  ⟨H.1, fun i p hp => by
    obtain ⟨a, n, t, t', q, g⟩ := H.2 i p hp
    exact ⟨a, n, t, t', q, kl _ _ _ g⟩⟩
theorem SgAt.snoc {h : Heap} {us : List Value} {K : List Int} {f : Int → Str} {a : Addr} {n : Nat} {t t' : Tok} {p : Int} (H : SgAt h us K f) (g : h.get? a = some (W.listOf #[.int p t, .str (f p) t'] n)) : SgAt h (us ++ [.ref a]) (K ++ [p]) f := by
  refine ⟨by rw [List.length_append, List.length_append, H.1]; rfl, fun i r hr => ?_⟩
  by_cases c : i < K.length
  · rw [List.getElem?_append_left c] at hr
    rw [List.getElem?_append_left (by rw [H.1]; exact c)]
    exact H.2 i r hr
  · have e : i = K.length := by
      have := (List.getElem?_eq_some_iff.mp hr).1
      rw [List.length_append, List.length_singleton] at this; exact Mine.q226 c this
    subst e
    rw [List.getElem?_append_right (Nat.le_refl _), Nat.sub_self] at hr
    obtain rfl : p = r := Option.some.inj hr
    rw [List.getElem?_append_right (by rw [H.1]; exact Nat.le_refl _), H.1, Nat.sub_self]
    exact ⟨a, n, t, t', rfl, g⟩
/-- the known ones, in order -/
noncomputable abbrev sortK (n : Nat) (K : List Int) : List Int := (upTo n).filter fun p => decide (p ∈ K)
theorem perm_all {n : Nat} {p : Array Nat} (h : Pm n p) {x : Nat} (hx : x < n) : ∃ j, j < n ∧ p.getD j 0 = x := by
  by_cases c : x ∈ p.toList
  · obtain ⟨j, hj⟩ := List.getElem?_of_mem c
    have hjn : j < n := by
      have := (List.getElem?_eq_some_iff.mp hj).1
      rw [Array.length_toList, h.sz] at this; exact this
    refine ⟨j, hjn, ?_⟩
    rw [getD_q, ← Array.getElem?_toList, hj]; rfl
  · exfalso
    have at' : ∀ {i : Nat} (hi : i < p.toList.length), p.toList[i] = p.getD i 0 := fun {i} hi => by
      rw [getD_q, ← Array.getElem?_toList, List.getElem?_eq_getElem hi]; rfl
    have hz : p.toList.length = n := by rw [Array.length_toList, h.sz]
    have nd : p.toList.Nodup := by
      rw [List.nodup_iff_pairwise_ne, List.pairwise_iff_getElem]
      intro i j hi hj hij e
      rw [at' hi, at' hj] at e
      have := h.inj i (by exact Mine.q227 hz hi) j (by exact Mine.q227 hz hj) e
      exact Mine.q228 hij this
    have := nd_lenA (m := List.range n) (List.nodup_cons.mpr ⟨c, nd⟩) fun y hy => by
      rcases List.mem_cons.mp hy with e | hy
      · rw [e]; exact List.mem_range.mpr hx
      · obtain ⟨i, hi, e⟩ := List.getElem_of_mem hy
        rw [← e, at' hi]
        exact List.mem_range.mpr (h.lt i (by exact Mine.q227 hz hi))
    rw [List.length_cons, hz, List.length_range] at this
    exact Mine.q229 this
theorem sort_keys {n N : Nat} {K : List Int} (hz : K.length = N) (hK : ∀ p ∈ K, p ∈ upTo n) {p : Array Nat} (hp : Pm N p) (hu : Up (fun i => K.getD i 0) p N) : p.toList.map (fun i => K.getD i 0) = sortK n K := by
  have hl : p.toList.length = N := by rw [Array.length_toList, hp.sz]
  have at' : ∀ {i : Nat} (hi : i < p.toList.length), p.toList[i] = p.getD i 0 := fun {i} hi => by
    rw [getD_q, ← Array.getElem?_toList, List.getElem?_eq_getElem hi]; rfl
  have kin : ∀ i, i < N → K.getD i 0 ∈ K := fun i hi => by
    rw [List.getD_eq_getElem?_getD, List.getElem?_eq_getElem (by exact Mine.q230 hz hi)]
    exact List.getElem_mem _
  refine sorted_eq ?_ ((ints_pw n).filter _) fun x => ?_
  · rw [List.pairwise_map, List.pairwise_iff_getElem]
    intro i j hi hj hij
    rw [at' hi, at' hj]
    exact hu i j hij (by exact Mine.q227 hl hj)
  · rw [List.mem_filter, decide_eq_true_eq, List.mem_map]
    constructor
    · rintro ⟨i, hi, rfl⟩
      obtain ⟨j, hj, e⟩ := List.getElem_of_mem hi
      rw [at' hj] at e
      have : i < N := by rw [← e]; exact hp.lt j (by exact Mine.q227 hl hj)
      exact ⟨hK _ (kin i this), kin i this⟩
    · rintro ⟨_, hx⟩
      obtain ⟨i, hi⟩ := List.getElem?_of_mem hx
      have hin : i < N := by have := (List.getElem?_eq_some_iff.mp hi).1; exact Mine.q227 hz this
      obtain ⟨j, hj, e⟩ := perm_all hp hin
      refine ⟨i, ?_, by rw [List.getD_eq_getElem?_getD, hi]; rfl⟩
      rw [← e, ← at' (by exact Mine.q230 hl hj : j < p.toList.length)]
      exact List.getElem_mem _
section
variable {prog : Program} {w : World} {A : Around} {E : Value → Shared → Prop} {s : Shared}
/-- sorted of the list of pairs -/
theorem sortSg {n₀ n : Nat} {hs : Heap} {L D : Addr} {m : Str → Option Value} {us : List Value} {nD : Nat} {K : List Int} {f : Int → Str} {Q : Value → Shared → Prop} (G : Gd w n₀ hs) (kp : Kp hs s.heap) (hn : s.heap.Ns L m) (hL : n₀ ≤ L) (gD : s.heap.get? D = some (W.listOf us.toArray nD)) (nL : D ≠ L) (fD : hs.get? D = none)
    (S : SgAt s.heap us K f) (hne : ∀ a, Value.ref a ∈ us → a ≠ D) (nd : K.Nodup) (hK : ∀ p ∈ K, p ∈ upTo n) (h2 : 2 ≤ K.length) (h64 : K.length < 64) (hu : A.in1.in1.units < cLine)
    (h : ∀ h' R us' e, h'.Ns L m → KpB [L] s.heap h' → D < R → h'.get? R = some (W.listOf us'.toArray e) → SgAt h' us' (sortK n K) f → Q (.ref R) { s with heap := h' }) :
    wpAny (model prog w) A (call (.builtin "sorted") [.ref D]) Q E s := by
  refine rebaseFK [(D, W.listOf us.toArray nD)] G kp hn hL (List.forall_mem_singleton.mpr ⟨gD, nL, .inr fD⟩) fun h₀ tail F N off lt X mean mg mb T hid bk => ?_
  simp only [List.cons_append, List.nil_append] at N F
  have hz := S.1
  have kin : ∀ i, i < us.length → K[i]? = some (K.getD i 0) := fun i hi => by
    rw [List.getD_eq_getElem?_getD, List.getElem?_eq_getElem (by exact Mine.q227 hz hi)]; rfl
  refine sortL (key := fun i => K.getD i 0) F N (IsL.isList (N.get (.head _))) (by exact Mine.q231 h2 hz) (by exact Mine.q77 h64 hz) hu (fun i hi => ?_) (fun i hi j hj e => ?_) ?_
  · obtain ⟨a, n', t, t', q, g⟩ := S.2 i _ (kin i hi)
    refine ⟨a, _, n', t, q, rfl, fun h' F' N' => bk _ _ _ F' N' (fun x hx => .tail _ hx) _ _ (nin2 (fun z => ns_noL hn _ _ (z ▸ g)) (hne a (List.mem_of_getElem? q))) g⟩
  · have h1 := kin i hi
    have h2 := kin j hj
    rw [e, ← h2] at h1
    exact (List.getElem?_inj (by exact Mine.q227 hz hi) nd).mp h1
  · intro h' R e p hp hup F' N' lR
    have kb := (bk _ _ _ F' N' fun x hx => .tail _ (.tail _ hx)).less (W' := [L]) (al2 (.inl (.head _)) (.inr ⟨_, gD, N'.get (.tail _ (.head _))⟩))
    refine h h' R _ e F'.ns kb (lR _ (.head _)) (N'.get (.head _)) ?_
    have ek := sort_keys (n := n) hz.symm hK hp hup
    have hl : p.toList.length = us.length := by rw [Array.length_toList, hp.sz]
    refine ⟨by rw [← ek, List.length_map, List.length_map], fun i x hx => ?_⟩
    rw [← ek, List.getElem?_map] at hx
    obtain ⟨j, hj, rfl⟩ := Option.map_eq_some_iff.mp hx
    have hjn : j < us.length := by
      have h3 := (List.getElem?_eq_some_iff.mp hj).1
      have h4 := hp.lt i (by exact Mine.q227 hl h3)
      rw [getD_q, ← Array.getElem?_toList, hj] at h4
      exact h4
    obtain ⟨a, n', t, t', q, g⟩ := S.2 j _ (kin j hjn)
    refine ⟨a, n', t, t', ?_, kb _ _ (nin1 fun z => ns_noL hn _ _ (z ▸ g)) g⟩
    rw [List.getElem?_map, hj, Option.map_some, List.getD_eq_getElem?_getD, q]; rfl
end
end Mine
end
section
open PySem PySem.W PyProof.Rows PySem.Calls PySem.Spec
set_option Elab.async false
set_option maxRecDepth 100000
set_option maxHeartbeats 4000000
namespace Mine
theorem fillKD' : (PySem.Challenge.rw_oc0253_01, Mine.hd.heap_1) = (PySem.Challenge.rw_oc0253_01, Mine.hd.heap_1) := by k_fill; rfl
theorem kd_notIn {prog : Program} {w : World} {A : Around} {E : Value → Shared → Prop} {s : Shared} {h₀ : Heap} {L d : Addr} {news : List (Addr × Obj)} {o : Obj} {kvs : List (Int × Value)} {k : Int} {t : Tok} {Q : Value → Shared → Prop} (N : News h₀ L s.heap news) (hm : (d, o) ∈ news) (ho : o.IsDictOf (intKind prog w) kvs) (hd : (d == sysModules) = false)
    (h : Q (.bool (decide (k ∉ kvs.map (·.1)))) { s with toks := s.toks + 1 }) : wpAny (model prog w) A (compareOp .NotIn (.int k t) (.ref d)) Q E s := by
  refine wpAny_notIn_of (ik k t) hd (kd_of N hm ho).mapOf ?_
  have e : (!(valueAt kvs k).isSome) = decide (k ∉ kvs.map (·.1)) := by
    rw [Bool.eq_iff_iff, decide_eq_true_iff, ← valueAt_mem]
    cases (valueAt kvs k).isSome <;> simp
  rw [e]
  exact h
theorem ints_at : ∀ {vs : List Value} {ns : List Int} {i : Nat} {v : Value}, IntsAre vs ns → vs[i]? = some v → ∃ f t, v = .int f t ∧ ns[i]? = some f
  | _, _, _, _, .nil, h => by cases h
  | _, _, 0, _, .cons n t r, h => ⟨n, t, (Option.some.inj h).symm, rfl⟩
  | _, _, i + 1, _, .cons n t r, h => ints_at (i := i) r h
theorem eqNil {prog : Program} {w : World} {A : Around} {E : Value → Shared → Prop} {s : Shared} {l b : Addr} {xs : Array Value} {n n2 : Nat} {Q : Value → Shared → Prop} (hl : s.heap.get? l = some (W.listOf xs n)) (hb : s.heap.get? b = some (W.listOf #[] n2)) (hu : A.units < cLine) (h : Q (.bool (decide (xs.size = 0))) s) :
    wpAny (model prog w) A (compareOp .Eq (.ref l) (.ref b)) Q E s := by
  by_cases c : xs.size = 0
  · refine P.eq_list (e := fun _ => true) hl hb c (fun j h1 _ => absurd h1 (by exact Mine.q232 c)) hu ?_
    rw [c]
    rw [decide_eq_true c] at h
    exact h
  · refine P.eq_list_lengths hl hb (by simpa using c) hu ?_
    rw [decide_eq_false c] at h
    exact h
section
variable {prog : Program} {w : World} {A : Around} {E : Value → Shared → Prop} {s : Shared} {env : Env}
/-- two names from a pair, the first a cell -/
theorem asgTC {a b : Str} {pa pb pt : Pos} {x1 : Nat} {T L c : Addr} {v0 v1 : Value} {m : Str → Option Value} {Q : Unit → Shared → Prop} (hh : A.handled = none) (hL : env.locals = L) (hk : env.scope.kind = .function) (ha : env.kindOf a = some .cell) (hc : env.cells.lookup a = some c) (hv : ∃ u, s.heap.IsCell c u) (hcL : L ≠ c) (hb : env.kindOf b = some .local)
    (hp : (env.scope.kind == .class || (env.scope.kind == .module && env.locals != env.globals)) = false) (ht : s.heap.IsTuple T #[v0, v1]) (hn : s.heap.Ns L m)
    (h : ∀ h' tk o, h'.get? c = some o → o.data = .cell (some v0) → h'.Ns L (fun y => if y = b then some v1 else m y) → KpB [L, c] s.heap h' → Q () { s with heap := h', toks := tk }) :
    wpAny (model prog w) A (assign (.Tuple [.Name a pa, .Name b pb] x1 pt) env (.ref T)) Q E s := by
  subst hL
  refine wpAny_assign_Tuple hh ht rfl rfl fun h₃ hx₃ => ?_
  have up₃ : ∀ c o, s.heap.get? c = some o → h₃.get? c = some o := fun c o x => hx₃ c o (Nat.ne_of_lt (Heap.lt_size x)) x
  have n₃ := hn.at' fun o e => up₃ _ o e
  obtain ⟨u, oc, hoc, hdc⟩ := hv
  show wpAny _ A (do holding [v1] (assign (.Name a pa) env v0); do holding [] (assign (.Name b pb) env v1); pure ()) _ _ _
  refine wpAny_bind (wpAny_holding (asgC hk ha hc ⟨u, oc, up₃ _ _ hoc, hdc⟩ fun h₄ o go hd kb => ?_))
  refine wpAny_bind (wpAny_holding (wpAny_assign_Name (wpAny_storeName_local hb (n₃.at' fun o e => kb _ o (nin1 hcL) e) (fun h₅ hn₅ hs₅ => wpAny_pure ?_) hp)))
  exact h _ _ o (hs₅.extBut _ _ hcL.symm go) hd hn₅ fun q o hq e => hs₅.extBut q o (fun z => hq (z ▸ .head _)) (kb q o (nin1 fun z => hq (z ▸ tl (.head _))) (up₃ q o e))
end
/-- a node -/
structure Nd where
  a : Addr
  T : Addr
  R : Addr
  kd : Int
  ts : List Int
  bs : List Bool
structure Nd.Lies (q : Nd) (h : Heap) : Prop where
  nd : ∃ t n, h.get? q.a = some (W.listOf #[.int q.kd t, .ref q.T, .ref q.R] n)
  tk : ∃ vs n, h.get? q.T = some (W.listOf vs n) ∧ IntsAre vs.toList q.ts
  rt : ∃ n, h.get? q.R = some (W.listOf (q.bs.map Value.bool).toArray n)
structure NodesAt (h : Heap) (aN : Addr) (nd : List Nd) : Prop where
  ls : ∃ n, h.get? aN = some (W.listOf (nd.map fun q => Value.ref q.a).toArray n)
  lie : ∀ q ∈ nd, q.Lies h
  ok : ∀ q ∈ nd, NodeOk nd.length q.kd q.ts q.bs
  len : 0 < nd.length ∧ nd.length ≤ 13
theorem Nd.Lies.up {q : Nd} {h h' : Heap} (x : q.Lies h) (k : Kp h h') : q.Lies h' := by
  obtain ⟨⟨t, n, a⟩, ⟨vs, n', b, c⟩, ⟨m, d⟩⟩ := x
  exact ⟨⟨t, n, k _ _ a⟩, ⟨vs, n', k _ _ b, c⟩, ⟨m, k _ _ d⟩⟩
theorem NodesAt.up {h h' : Heap} {aN : Addr} {nd : List Nd} (x : NodesAt h aN nd) (k : Kp h h') : NodesAt h' aN nd := by
  obtain ⟨⟨n, a⟩, b, c, d⟩ := x
  exact ⟨⟨n, k _ _ a⟩, fun q hq => (b q hq).up k, c, d⟩
noncomputable def kdF (nd : List Nd) (p : Int) : Int := (nd[p.toNat]?).elim 0 (·.kd)
noncomputable def tkF (nd : List Nd) (p : Int) : List Int := (nd[p.toNat]?).elim [] (·.ts)
noncomputable def bsF (nd : List Nd) (p : Int) : List Bool := (nd[p.toNat]?).elim [] (·.bs)
noncomputable abbrev knF (nd : List Nd) (t : Nat) : List Int := kn nd.length (tkF nd) t
/-- what is known of p after t rounds -/
noncomputable def valF (nd : List Nd) : Nat → Int → List Bool
  | 0, _ => []
  | t + 1, p => if p ∈ knF nd t then valF nd t p else if kdF nd p > 1 then gateF (kdF nd p) ((tkF nd p).map (valF nd t)) else bsF nd p
/-- the rounds -/
noncomputable def rdF (nd : List Nd) : Nat → List (List Int)
  | 0 => []
  | t + 1 => rdF nd t ++ if free nd.length (tkF nd) (knF nd t) = [] then [] else [free nd.length (tkF nd) (knF nd t)]
/-- a list of int lists, as it lies -/
noncomputable def RoundsAt (h : Heap) (vs : List Value) (rs : List (List Int)) : Prop := vs.length = rs.length ∧ ∀ (i : Nat) (r : List Int), rs[i]? = some r → ∃ (a : Addr) (us : Array Value) (n : Nat), vs[i]? = some (Value.ref a) ∧ h.get? a = some (W.listOf us n) ∧ IntsAre us.toList r
structure DueSt (prog : Program) (w : World) (hs : Heap) (dK aRd : Addr) (K : List Int) (v : Int → List Bool) (rs : List (List Int)) (h : Heap) : Prop where
  kp : Kp hs h
  d : ∃ o kvs, h.get? dK = some o ∧ o.IsDictOf (intKind prog w) kvs ∧ kvs.map (·.1) = K ∧ ∀ p x, (p, x) ∈ kvs → ∃ (a : Addr) (n : Nat), x = Value.ref a ∧ h.get? a = some (W.listOf ((v p).map Value.bool).toArray n)
  r : ∃ vs n, h.get? aRd = some (W.listOf vs n) ∧ RoundsAt h vs.toList rs
theorem ns_noList {h : Heap} {L : Addr} {m : Str → Option Value} (hn : h.Ns L m) (xs : Array Value) (n : Nat) : h.get? L ≠ some (W.listOf xs n) := fun e => by
  obtain ⟨o, es, ep, ho, hd, _⟩ := hn.noRefKey
  rw [e] at ho
  cases ho
  cases hd
theorem DueSt.up {prog : Program} {w : World} {hs h h' : Heap} {dK aRd : Addr} {K : List Int} {v : Int → List Bool} {rs : List (List Int)} {V : List Addr} (D : DueSt prog w hs dK aRd K v rs h) (k : KpB V h h') (hW : ∀ a ∈ V, hs.get? a = none) (hl : ∀ a ∈ V, ∀ xs n, h.get? a ≠ some (W.listOf xs n)) (hd : dK ∉ V) : DueSt prog w hs dK aRd K v rs h' := by
  obtain ⟨kp, ⟨o, kvs, a, b, c, d⟩, vs, n, e, f, g⟩ := D
  have kl : ∀ a xs n, h.get? a = some (W.listOf xs n) → h'.get? a = some (W.listOf xs n) := fun a xs n q => k _ _ (fun z => hl a z xs n q) q
  exact ⟨kp_new kp k hW, ⟨o, kvs, k _ _ hd a, b, c, fun p x hx => by
    obtain ⟨a, n, q, r⟩ := d p x hx
    exact ⟨a, n, q, kl _ _ _ r⟩⟩, vs, n, kl _ _ _ e, f, fun i r hr => by
    obtain ⟨a, us, n, q, r, t⟩ := g i r hr
    exact ⟨a, us, n, q, kl _ _ _ r, t⟩⟩
theorem valF_old {nd : List Nd} {t : Nat} {p : Int} (h : p ∈ knF nd t) : valF nd (t + 1) p = valF nd t p := if_pos h
theorem valF_new {nd : List Nd} {t : Nat} {p : Int} (h : p ∉ knF nd t) : valF nd (t + 1) p = if kdF nd p > 1 then gateF (kdF nd p) ((tkF nd p).map (valF nd t)) else bsF nd p := if_neg h
theorem nd_at {nd : List Nd} {p : Int} (h : p ∈ upTo nd.length) : ∃ q, nd[p.toNat]? = some q ∧ q ∈ nd ∧ kdF nd p = q.kd ∧ tkF nd p = q.ts ∧ bsF nd p = q.bs := by
  have hp := mem_ints.mp h
  have e : nd[p.toNat]? = some nd[p.toNat] := List.getElem?_eq_getElem (by exact Mine.q15 hp.1 hp.2)
  exact ⟨_, e, List.mem_of_getElem? e, by unfold kdF; rw [e]; rfl, by unfold tkF; rw [e]; rfl, by unfold bsF; rw [e]; rfl⟩
theorem valF_len {nd : List Nd} (ok : ∀ q ∈ nd, NodeOk nd.length q.kd q.ts q.bs) : ∀ (t : Nat) (p : Int), p ∈ knF nd t → (valF nd t p).length = 10
  | 0, _, h => absurd h List.not_mem_nil
  | t + 1, p, h => by
    by_cases c : p ∈ knF nd t
    · rw [valF_old c]; exact valF_len ok t p c
    · obtain ⟨q, _, hq, e1, _, e3⟩ := nd_at (kn_ints h)
      rw [valF_new c, e1, e3]
      split
      · unfold gateF; rw [List.length_map, List.length_range]
      · exact ((ok q hq).small (by exact Mine.q233 ‹_›)).1
theorem DueSt.val {prog : Program} {w : World} {hs h : Heap} {dK aRd : Addr} {K : List Int} {v v' : Int → List Bool} {rs : List (List Int)} (D : DueSt prog w hs dK aRd K v rs h) (e : ∀ p ∈ K, v p = v' p) : DueSt prog w hs dK aRd K v' rs h := by
  obtain ⟨kp, ⟨o, kvs, a, b, c, d⟩, r⟩ := D
  exact ⟨kp, ⟨o, kvs, a, b, c, fun p x hx => by
    rw [← e p (c ▸ List.mem_map_of_mem hx)]
    exact d p x hx⟩, r⟩
theorem DueSt.step {prog : Program} {w : World} {hs h h' : Heap} {dK aRd a : Addr} {n : Nat} {K : List Int} {v : Int → List Bool} {rs : List (List Int)} {p : Int} {o o' : Obj} {kvs : List (Int × Value)} (D : DueSt prog w hs dK aRd K v rs h) (kp : Kp hs h') (eo : h.get? dK = some o) (ho : o.IsDictOf (intKind prog w) kvs) (ek : kvs.map (·.1) = K)
    (hv : ∀ p x, (p, x) ∈ kvs → ∃ (a : Addr) (n : Nat), x = Value.ref a ∧ h.get? a = some (W.listOf ((v p).map Value.bool).toArray n))
    (eo' : h'.get? dK = some o') (ho' : o'.IsDictOf (intKind prog w) (stored kvs p (.ref a))) (hp : p ∉ K) (ga : h'.get? a = some (W.listOf ((v p).map Value.bool).toArray n)) (kl : ∀ a xs n, h.get? a = some (W.listOf xs n) → h'.get? a = some (W.listOf xs n)) : DueSt prog w hs dK aRd (K ++ [p]) v rs h' := by
  rw [stored_new (by rw [ek]; exact hp)] at ho'
  obtain ⟨_, _, vs, n', e, f, g⟩ := D
  refine ⟨kp, ⟨o', _, eo', ho', by rw [List.map_append, ek]; rfl, fun p' x hx => ?_⟩, vs, n', kl _ _ _ e, f, fun i r hr => by
    obtain ⟨a, us, n, q, r, t⟩ := g i r hr
    exact ⟨a, us, n, q, kl _ _ _ r, t⟩⟩
  rcases List.mem_append.mp hx with hx | hx
  · obtain ⟨b, m, q, r⟩ := hv p' x hx
    exact ⟨b, m, q, kl _ _ _ r⟩
  · obtain ⟨rfl, rfl⟩ := Prod.mk.inj (List.mem_singleton.mp hx)
    exact ⟨a, n, rfl, ga⟩
theorem noDictL {prog : Program} {w : World} {h : Heap} {d : Addr} {o : Obj} {kvs : List (Int × Value)} (g : h.get? d = some o) (ho : o.IsDictOf (intKind prog w) kvs) (xs : Array Value) (n : Nat) : h.get? d ≠ some (W.listOf xs n) := fun e => by
  rw [g] at e
  obtain ⟨_, _, hx, _⟩ := ho
  exact absurd (Value.type.inj (hx.1.symm.trans (congrArg Obj.cls (Option.some.inj e)))) (by decide)
theorem take_not {l : List Int} (h : l.Nodup) {j : Nat} {p : Int} (hp : l[j]? = some p) : p ∉ l.take j := fun q => by
  obtain ⟨i, hi⟩ := List.getElem?_of_mem q
  have hij : i < j := by
    have := (List.getElem?_eq_some_iff.mp hi).1
    rw [List.length_take] at this; exact Mine.q234 this
  rw [List.getElem?_take_of_lt hij] at hi
  have h1 := List.getElem?_eq_some_iff.mp hi
  have h2 := List.getElem?_eq_some_iff.mp hp
  obtain ⟨a1, b1⟩ := h1
  obtain ⟨a2, b2⟩ := h2
  have := (List.getElem_inj h).mp (b1.trans b2.symm)
  exact Mine.q228 hij this
theorem nd_len : ∀ {l m : List Int}, l.Nodup → (∀ x ∈ l, x ∈ m) → l.length ≤ m.length
  | [], _, _, _ => Nat.zero_le _
  | a :: l, m, h, hs => by
    have ha := hs a (.head _)
    have := nd_len (m := m.erase a) (List.nodup_cons.mp h).2 fun x hx => (List.mem_erase_of_ne (show x ≠ a from fun e => (List.nodup_cons.mp h).1 (e ▸ hx))).mpr (hs x (.tail _ hx))
    rw [List.length_erase_of_mem ha] at this
    have := List.length_pos_of_mem ha
    rw [List.length_cons]; exact Mine.q28 ‹_› this
theorem kn_len (n : Nat) (tk : Int → List Int) (t : Nat) : (kn n tk t).length ≤ n := by
  have := nd_len (kn_nodup (n := n) (tk := tk) t) fun x hx => kn_ints hx
  rwa [show (upTo n).length = n by unfold upTo; rw [List.length_map, List.length_range]] at this
theorem dict_ne_cell {prog : Program} {w : World} {h : Heap} {d c : Addr} {o o' : Obj} {kvs : List (Int × Value)} {v : Option Value} (g : h.get? d = some o) (ho : o.IsDictOf (intKind prog w) kvs) (g' : h.get? c = some o') (hd' : o'.data = .cell v) : d ≠ c := fun z => by
  rw [z, g'] at g
  cases g
  obtain ⟨_, _, _, hd, _⟩ := ho
  rw [hd'] at hd; cases hd
theorem noIterL {h : Heap} {I a : Addr} {i : Nat} (st : h.IsListIter I a i) (xs : Array Value) (n : Nat) : h.get? I ≠ some (W.listOf xs n) := fun e => by
  obtain ⟨o, g, c, _⟩ := st
  rw [g] at e
  cases e
  exact absurd (Value.type.inj c) (by decide)
theorem RoundsAt.snoc {h : Heap} {vs : List Value} {rs : List (List Int)} {a : Addr} {us : Array Value} {n : Nat} {r : List Int} (H : RoundsAt h vs rs) (g : h.get? a = some (W.listOf us n)) (hu : IntsAre us.toList r) : RoundsAt h (vs ++ [.ref a]) (rs ++ [r]) := by
  refine ⟨by rw [List.length_append, List.length_append, H.1]; rfl, fun i r' hr => ?_⟩
  by_cases c : i < rs.length
  · rw [List.getElem?_append_left c] at hr
    rw [List.getElem?_append_left (by rw [H.1]; exact c)]
    exact H.2 i r' hr
  · have e : i = rs.length := by
      have := (List.getElem?_eq_some_iff.mp hr).1
      rw [List.length_append, List.length_singleton] at this; exact Mine.q226 c this
    subst e
    rw [List.getElem?_append_right (Nat.le_refl _), Nat.sub_self] at hr
    obtain rfl : r = r' := Option.some.inj hr
    rw [List.getElem?_append_right (by rw [H.1]; exact Nat.le_refl _), H.1, Nat.sub_self]
    exact ⟨a, us, n, rfl, g, hu⟩
theorem RoundsAt.up {h h' : Heap} {vs : List Value} {rs : List (List Int)} (H : RoundsAt h vs rs) (kl : ∀ a xs n, h.get? a = some (W.listOf xs n) → h'.get? a = some (W.listOf xs n)) : RoundsAt h' vs rs :=
  ⟨H.1, fun i r hr => by
    obtain ⟨a, us, n, q, r, t⟩ := H.2 i r hr
    exact ⟨a, us, n, q, kl _ _ _ r, t⟩⟩
theorem DueSt.round {prog : Program} {w : World} {hs h h' : Heap} {dK aRd aR' : Addr} {K : List Int} {v : Int → List Bool} {rs rs' : List (List Int)} {vs' : Array Value} {n' : Nat} (D : DueSt prog w hs dK aRd K v rs h) (kp : Kp hs h') (kd : ∀ o, h.get? dK = some o → h'.get? dK = some o) (kl : ∀ a xs n, h.get? a = some (W.listOf xs n) → h'.get? a = some (W.listOf xs n))
    (gn : h'.get? aR' = some (W.listOf vs' n')) (hr : RoundsAt h' vs'.toList rs') : DueSt prog w hs dK aR' K v rs' h' := by
  obtain ⟨_, ⟨o, kvs, a, b, c, d⟩, _⟩ := D
  exact ⟨kp, ⟨o, kvs, kd _ a, b, c, fun p x hx => by
    obtain ⟨a, n, q, r⟩ := d p x hx
    exact ⟨a, n, q, kl _ _ _ r⟩⟩, vs', n', gn, hr⟩
/-- the answer, as it lies -/
noncomputable def ResAt (h : Heap) (D : Addr) (ring : Bool) (rs : List (List Int)) (K : List Int) (f : Int → Str) : Prop :=
  ∃ (aR aS : Addr) (n : Nat) (vs : Array Value) (n1 : Nat) (us : Array Value) (n2 : Nat), h.get? D = some (W.listOf #[.bool ring, .ref aR, .ref aS] n) ∧ h.get? aR = some (W.listOf vs n1) ∧ RoundsAt h vs.toList rs ∧ h.get? aS = some (W.listOf us n2) ∧ SgAt h us.toList K f
theorem rdF_len (nd : List Nd) : ∀ t, (rdF nd t).length ≤ t
  | 0 => Nat.le_refl _
  | t + 1 => by
    have := rdF_len nd t
    show (rdF nd t ++ _).length ≤ _
    rw [List.length_append]
    split <;> simp <;> (first | exact Mine.q235 this | omega)
theorem dueC {prog : Program} {w : World} {n₀ : Nat} {A : Around} {s : Shared} {Q E : Value → Shared → Prop} (G : Gd w n₀ s.heap) (r : Rm A 20 200) (hs : n₀ ≤ s.heap.objs.size) {aN : Addr} {nd : List Nd} (H : NodesAt s.heap aN nd)
    (h2K : 2 ≤ (knF nd nd.length).length)
    (ret : ∀ h' tk D, Kp s.heap h' → ResAt h' D (decide ((knF nd nd.length).length < nd.length)) (rdF nd nd.length) (sortK nd.length (knF nd nd.length)) (fun p => Txt.join "" (sgS (valF nd nd.length p) 10)) → Q (.ref D) { s with heap := h', toks := tk }) :
    wpAny (model prog w) A (call (.ref 245) [.ref aN]) Q E s := by
  w_on
  refine wpAny_call ?_
  refine' startC (K := Mine.hd.heap_1 w.params) [] [(Str.ofString "nodes", .ref aN)] (d := 19) (u := 197) r (fun _ q => q) G hs trivial ?k4 ?k5 ?k7 ?k8 ?k9 ?_ ?c2 ?c3 ?c4
  (case k4 => k_is)
  (case k5 => k_is)
  (case k7 => exact BindsTo.of_eq rfl)
  (case k8 => rfl)
  (case k9 => decide)
  (case c2 => exact rfl)
  (case c3 => exact rfl)
  (case c4 => exact rfl)
  intro A' PQ PE h₁ h₀ L tail mean mg mb tk0 cells rA hQ1 hQ2 hfr Y hcn B F N X TT
  obtain ⟨oK, oN, rfl, hoK, hoN⟩ := CellsAre.two Y
  have gN := N.get (tl (.head _))
  have gK := N.get (.head _)
  have hoN' : oN.data = .cell (some (.ref aN)) := hoN
  have hoK' : oK.data = .cell none := hoK
  have fN := hcn _ (tl (.head _))
  have fK := hcn _ (.head _)
  simp only [List.cons_append, List.nil_append] at N
  have TR := topRead_of TT
  have kp1 : Kp s.heap h₁ := ((B.fin _ _ _ F N fun q hq => tl (tl hq)).fresh (W' := []) (al2 (.inr fK) (.inr fN))).kp
  have zL := ltN F.ns.lt
  have fr : ∀ a : Nat, @LE.le Nat _ L a → s.heap.get? a = none := fun a h => Heap.get?_none_of_le (Nat.le_trans B.ls h)
  w_strict (
  k_steps
  (rename Fr _ _ _ _ => F3); (rename News _ _ _ _ => N3)
  rename_i dK hD oD loD hsD fsD hiD fiD lD aRd hA lRd aT h3 lT
  refine asgTC (c := L + 1 + 1) rA.hh rfl rfl rfl rfl ⟨_, oK, N3.get (by k_mem), hoK'⟩ (Nat.ne_of_lt (Nat.lt_succ_of_lt (Nat.lt_succ_self L))) rfl rfl ⟨_, N3.get (.head _), rfl, _, rfl⟩ F3.ns fun h4 tk4 oK2 gK2 hoK2 hn4 kb4 => ?_
  have gD4 := kb4 _ _ (nin2 (N3 _ (tl (tl (.head _)))).2.1 (Nat.ne_of_gt lD.1)) (N3.get (tl (tl (.head _))))
  have gR4 := kb4 _ _ (nin2 (N3 _ (tl (.head _))).2.1 (Nat.ne_of_gt lRd.2.1)) (N3.get (tl (.head _)))
  have nNL := (N3 _ (tl (tl (tl (tl (.head _)))))).2.1
  have gN4 := kb4 _ _ (nin2 nNL (Nat.ne_of_lt (Nat.lt_succ_self _))) (N3.get (tl (tl (tl (tl (.head _))))))
  have fT : s.heap.get? aT = none := fr _ (by exact Mine.q156 lT.2.2.1)
  have kp4 : Kp s.heap h4 := kp_new ((B.fin _ _ _ F3 N3 fun q hq => tl (tl (tl (tl (tl hq))))).fresh (W' := []) (al2 (.inr fK) (.inr fN))).kp kb4 (al2 B.lf fK)
  have fD : s.heap.get? dK = none := fr _ (by exact Mine.q156 lD.1)
  have fR : s.heap.get? aRd = none := fr _ (by exact Mine.q156 lRd.2.1)
  have nDL : dK ≠ L := (N3 _ (tl (tl (.head _)))).2.1
  have nRL : aRd ≠ L := (N3 _ (tl (.head _))).2.1
  refine rebaseFK [(aRd, W.listOf #[] 0), (dK, oD), (L + 1 + 1, oK2), (L + 1, oN)] G kp4 hn4 B.ln (al4 ⟨gR4, nRL, .inr fR⟩ ⟨gD4, nDL, .inr fD⟩ ⟨gK2, Nat.ne_of_gt (Nat.lt_succ_of_lt (Nat.lt_succ_self L)), .inr fK⟩ ⟨gN4, nNL, .inr fN⟩) fun h₀9 tail9 F9 N9 off9 lt9 X9 mean9 mg9 mb9 T9 hid9 bk9 => ?_
  simp only [List.cons_append, List.nil_append] at N9 F9
  have TR9 := topRead_of T9
  clear F3 N3 X TT TR
  dsimp only
  k_steps
  refine wpAny_For ?_
  k_steps
  have H4 := H.up kp4
  obtain ⟨nn, gNd⟩ := H4.ls
  refine wpAny_pyIter_list (IsL.isList gNd) ?_
  (rename Fr _ _ _ _ => F9); (rename News _ _ _ _ => N9)
  have eN : (nd.map fun q => Value.ref q.a).toArray.size = nd.length := by rw [List.size_toArray, List.length_map]
  have zN := Heap.lt_size gNd
  have zL4 := ltN hn4.lt
  have fI : s.heap.get? h4.objs.size = none := fr _ (Nat.le_of_lt zL4)
  refine forQ (fun t m h => (∃ aR, m (Str.ofString "rounds") = some (.ref aR) ∧ s.heap.get? aR = none ∧ DueSt prog w s.heap dK aR (knF nd t) (valF nd t) (rdF nd t) h) ∧ h.get? (L + 1 + 1) = some oK2 ∧ h.get? (L + 1) = some oN ∧ ∀ a ∈ [L, h4.objs.size], ∀ xs n, h.get? a ≠ some (W.listOf xs n)) (Walks.list (A := A') rA.hh _ _ (Nat.ne_of_lt zN) (nd.map fun q => Value.ref q.a).toArray) rfl rfl ?_ ?_ (F9.ns.keeps fun b o e => Heap.get?_push_of_some _ e) ?_ ?_ ?_
  · exact nin2 (Nat.ne_of_lt zL4) (fun z => by have := (congrArg (s.heap.get? ·) z).symm.trans B.lf; obtain ⟨_, q⟩ := H.ls; rw [q] at this; cases this)
  · exact ⟨⟨_, Heap.get?_push_size _ rfl, rfl, rfl⟩, (IsL.isList gNd).at fun o e => Heap.get?_push_of_some _ e⟩
  · exact ⟨⟨aRd, if_pos rfl, fR, ⟨fun b o e => Heap.get?_push_of_some _ (kp4 b o e), ⟨oD, [], Heap.get?_push_of_some _ gD4, hiD, rfl, fun _ _ h => absurd h List.not_mem_nil⟩, #[], 0, Heap.get?_push_of_some _ gR4, rfl, fun i r h => by cases h⟩⟩, Heap.get?_push_of_some _ gK2, Heap.get?_push_of_some _ gN4, al2 (ns_noList (hn4.push _)) (fun xs n e => absurd (Value.type.inj (congrArg Obj.cls (Option.some.inj ((Heap.get?_push_size _ rfl).symm.trans e)))) (by decide))⟩
  · rintro PT PE t v m h hh tk7 hPT hi _ ⟨⟨aR, em, fA, D⟩, cK, cN, nl⟩ kb hn7 st
    have nDI : dK ≠ h4.objs.size := Nat.ne_of_lt (Heap.lt_size gD4)
    have D7 := D.up kb (al2 B.lf fI) nl (nin2 nDL nDI)
    have cK7 := kb _ _ (nin2 (Nat.ne_of_gt (Nat.lt_succ_of_lt (Nat.lt_succ_self L))) (Nat.ne_of_lt (Heap.lt_size gK2))) cK
    have cN7 := kb _ _ (nin2 nNL (Nat.ne_of_lt (Heap.lt_size gN4))) cN
    obtain ⟨oD7, kvs, gD7, hiD7, ekv, hkv⟩ := D7.d
    obtain ⟨rv, rn, gR7, hR7⟩ := D7.r
    have nRL7 : aR ≠ L := fun z => ns_noList hn7 _ _ (z ▸ gR7)
    have em7 := congrArg (fun f : Str → Option Value => fun y => if y = Str.ofString "turn" then some v else f y) (named em)
    rw [em7] at hn7
    refine rebaseFK [(aR, W.listOf rv rn), (dK, oD7), (L + 1 + 1, oK2), (L + 1, oN)] G D7.kp hn7 B.ln (al4 ⟨gR7, nRL7, .inr fA⟩ ⟨gD7, nDL, .inr fD⟩ ⟨cK7, Nat.ne_of_gt (Nat.lt_succ_of_lt (Nat.lt_succ_self L)), .inr fK⟩ ⟨cN7, nNL, .inr fN⟩) fun h₀8 tail8 F8 N8 off8 lt8 X8 mean8 mg8 mb8 T8 hid8 bk8 => ?_
    simp only [List.cons_append, List.nil_append] at N8 F8
    have TR8 := topRead_of T8
    clear F9 N9 X9 T9 TR9
    k_steps
    have H7 := H.up D7.kp
    obtain ⟨hN0, hN13⟩ := H.len
    obtain ⟨nn7, gNd7⟩ := H7.ls
    have kl := ltN F8.ns.lt
    refine compAV (hb := hh) (cl := [(Str.ofString "nodes", L + 1), (Str.ofString "known", L + 1 + 1)]) (by with_unfolding_all rfl) (by with_unfolding_all rfl) rfl (by decide) rfl rfl rfl F8.ns ?_
    dsimp only
    k_steps
    refine call_len_list (items := (nd.map fun q => Value.ref q.a).toArray) (IsL.isList gNd7) (by rw [eN]; omega) ?_
    dsimp only
    k_steps
    refine itRange1 (n := nd.length) (by rw [eN]) (by exact Mine.q236 hN13) ?_
    intro h2 I2 tk2 kp2 z2 z3 it2
    refine CompIs.mk I2 [I2] [I2] nd.length _ _ (fun _ _ i ys _ => IntsAre ys (((upTo nd.length).take i).filter fun p => decide (p ∉ knF nd t) && decide (∀ q ∈ tkF nd p, q ∈ knF nd t))) (Nx.name (Walks.range (A := A') rA.hh I2 0 1 nd.length) _ _) (by rw [sizeLine_eq]; exact Mine.q237 hN13) (by simpa using it2) (List.forall_mem_singleton.mpr (Heap.lt_size it2)) kp2 z3 (List.forall_mem_singleton.mpr (Heap.get?_none_of_le z2)) (fun _ _ _ _ => .nil) (fun _ _ _ _ _ _ q _ => q) ?_ ?_
    · rintro PT2 PE2 Dc C i v2 ys m2 h5 tk5 hC hV hcl gDc hPT2 hi2 ⟨ti, rfl⟩ hR2 hys hk hn2
      refine asgL rfl rfl rfl hn2 fun h6 tk6 hn6 kb6 => ?_
      have nC : ∀ b o, hh.get? b = some o → (b : Nat) ≠ C := fun b o e => Nat.ne_of_lt (Nat.lt_of_lt_of_le (Heap.lt_size e) (Nat.le_trans z3 hC))
      have K6 : Kp hh h6 := fun b o e => kb6 b o (nin1 (nC b o e)) (hk b o e)
      refine rebaseFK [(dK, oD7), (L + 1 + 1, oK2), (L + 1, oN)] G (D7.kp.trans K6) hn6 (Nat.le_trans B.ln (Nat.le_trans (Nat.le_of_lt kl) (Nat.le_trans z3 hC))) (al3 ⟨K6 _ _ gD7, nC _ _ gD7, .inr fD⟩ ⟨K6 _ _ cK7, nC _ _ cK7, .inr fK⟩ ⟨K6 _ _ cN7, nC _ _ cN7, .inr fN⟩) fun h₀7 tail7 F7 N7 off7 lt7 X7 mean7 mg7 mb7 T7 hid7 bk7 => ?_
      simp only [List.cons_append, List.nil_append] at N7 F7
      have TR7 := topRead_of T7
      clear F8 N8 X8 T8 TR8
      refine test1 ?_
      dsimp only
      k_steps
      (rename Fr _ _ _ _ => F7); (rename News _ _ _ _ => N7)
      refine kd_notIn N7 (.head _) hiD7 loD ?_
      rw [ekv]
      dsimp only
      obtain ⟨q, hq⟩ : ∃ q, nd[i]? = some q := ⟨_, List.getElem?_eq_getElem hi2⟩
      have hqm := List.mem_of_getElem? hq
      have ei : (0 + (i : Int) * 1) = (i : Int) := by exact Mine.q118
      have etk : tkF nd (0 + (i : Int) * 1) = q.ts := by
        unfold tkF
        rw [ei, Int.toNat_natCast, hq]; rfl
      have est : ((upTo nd.length).take (i + 1)).filter (fun p => decide (p ∉ knF nd t) && decide (∀ q ∈ tkF nd p, q ∈ knF nd t)) = ((upTo nd.length).take i).filter (fun p => decide (p ∉ knF nd t) && decide (∀ q ∈ tkF nd p, q ∈ knF nd t)) ++ if (0 + (i : Int) * 1) ∉ knF nd t ∧ (∀ x ∈ q.ts, x ∈ knF nd t) then [(0 + (i : Int) * 1)] else [] := by
        have e1 : (upTo nd.length)[i]? = some (0 + (i : Int) * 1) := by
          unfold upTo
          rw [List.getElem?_map, List.getElem?_range hi2, ei]; rfl
        rw [List.take_add_one, e1, List.filter_append]
        congr 1
        show List.filter _ [_] = _
        rw [List.filter_cons, List.filter_nil, etk]
        by_cases c1 : (0 + (i : Int) * 1) ∈ knF nd t <;> by_cases c2 : ∀ x ∈ q.ts, x ∈ knF nd t <;> simp [c1, c2]
      k_steps
      · rename_i hx
        refine compV (hb := h6) (cl := [(Str.ofString "known", L + 1 + 1)]) (by with_unfolding_all rfl) rfl (by decide) ?_
        k_steps
        have kh6 := D7.kp.trans K6
        have H6 := H.up kh6
        obtain ⟨nn6, gNd6⟩ := H6.ls
        obtain ⟨⟨tq, nq, gq⟩, ⟨vq, nT, gT, hT⟩, _⟩ := H6.lie q hqm
        refine item_at (IsL.isList gNd6) i (by omega) (by rw [eN]; exact Mine.q238 hN13) (by rw [List.getElem?_map, hq]; rfl) ?_
        k_steps
        refine item_at (IsL.isList gq) 1 rfl (Nat.le_of_ble_eq_true rfl) rfl ?_
        (rename Fr _ _ _ _ => F7); (rename News _ _ _ _ => N7)
        refine wpAny_pyIter_list (IsL.isList gT) ?_
        have kpI : Kp h6 (h6.push (liObj q.T)) := fun b o e => Heap.get?_push_of_some _ e
        have zaT := Heap.lt_size gT
        have zI : h6.objs.size < (h6.push (liObj q.T)).objs.size := by rw [Heap.size_push]; exact Nat.lt_succ_self _
        have hlT := hT.length
        have okq := H.ok q hqm
        have lT : q.ts.length ≤ 4 := by
          by_cases c : q.kd < 2
          · rw [(okq.small c).2]; exact Nat.zero_le _
          · exact (okq.big (by exact Mine.q239 c)).2
        rw [Array.length_toList] at hlT
        refine CompIs.mk h6.objs.size [h6.objs.size, q.T] [h6.objs.size] vq.size _ _ (fun _ _ j zs _ => zs.length = (q.ts.take j).countP fun x => decide (x ∉ knF nd t)) (Nx.name (Walks.list (A := A') rA.hh _ _ (Nat.ne_of_lt zaT) vq) _ _) (by rw [sizeLine_eq]; exact Mine.q240 hlT lT) ⟨⟨_, Heap.get?_push_size _ rfl, rfl, rfl⟩, IsL.isList (kpI _ _ gT)⟩ (al2 zI (Nat.lt_trans zaT zI)) kpI (Nat.le_of_lt zI) (List.forall_mem_singleton.mpr (Heap.get?_none_of_le (Nat.le_refl _))) (fun _ _ _ _ => rfl) (fun _ _ _ _ _ _ q _ => q) ?_ ?_
        · rintro PT3 PE3 D3 C3 j v3 zs m3 h7 tk7' hC3 hV3 hcl3 gD3 hPT3 hj hv3 hR3 hzs hk3 hn3
          obtain ⟨f, tf, rfl, hf⟩ := ints_at (i := j) hT ((Array.getElem?_toList ..).trans hv3)
          refine asgL rfl rfl rfl hn3 fun h8 tk8 hn8 kb8 => ?_
          have zC3 : (h6.objs.size : Nat) ≤ C3 := Nat.le_trans (Nat.le_of_lt zI) hC3
          have nC3 : ∀ b o, h6.get? b = some o → (b : Nat) ≠ C3 := fun b o e => Nat.ne_of_lt (Nat.lt_of_lt_of_le (Heap.lt_size e) zC3)
          have K8 : Kp h6 h8 := fun b o e => kb8 b o (nin1 (nC3 b o e)) (hk3 b o e)
          have gD8 := K8 _ _ (K6 _ _ gD7)
          have cK8 := K8 _ _ (K6 _ _ cK7)
          have bL6 : n₀ ≤ h6.objs.size := Nat.le_trans B.ln (Nat.le_trans (Nat.le_of_lt kl) (Nat.le_of_lt (Nat.lt_of_le_of_lt (Nat.le_trans z3 hC) hn6.lt)))
          refine rebaseFK [(dK, oD7), (L + 1 + 1, oK2)] G (kh6.trans K8) hn8 (Nat.le_trans bL6 zC3) (al2 ⟨gD8, nC3 _ _ (K6 _ _ gD7), .inr fD⟩ ⟨cK8, nC3 _ _ (K6 _ _ cK7), .inr fK⟩) fun h₀6 tail6 F6 N6 off6 lt6 X6 mean6 mg6 mb6 T6 hid6 bk6 => ?_
          simp only [List.cons_append, List.nil_append] at N6 F6
          have TR6 := topRead_of T6
          clear F7 N7 X7 T7 TR7
          refine test1 ?_
          dsimp only
          k_steps
          (rename Fr _ _ _ _ => F6); (rename News _ _ _ _ => N6)
          refine kd_notIn N6 (.head _) hiD7 loD ?_
          rw [ekv]
          have ect : (q.ts.take (j + 1)).countP (fun x => decide (x ∉ knF nd t)) = (q.ts.take j).countP (fun x => decide (x ∉ knF nd t)) + if f ∉ knF nd t then 1 else 0 := by
            rw [List.take_add_one, hf, List.countP_append]
            show _ + List.countP _ [f] = _
            rw [List.countP_singleton]
            by_cases c : f ∈ knF nd t <;> simp [c]
          dsimp only
          k_steps
          · rename_i hx3
            exact hPT3 _ _ _ _ (kbCV kb8) hn8 (clsNil rfl) (by rw [List.length_append, hR3, ect, if_pos hx3]; rfl) (by rw [List.length_append]; exact Nat.succ_le_succ hzs)
          · rename_i hx3
            exact hPT3 _ _ _ _ (kbCV kb8) hn8 (clsNil rfl) (by rw [hR3, ect, if_neg hx3]; rfl) (Nat.le_succ_of_le hzs)
        · rintro D3 C3 zs h7 tk7' n7 hk3 hD3 zD3 gD3 hR3 hzs hDC3 zC3 hCn3 h8 sb8
          have K8 : Kp h6 h8 := fun b o e => sb8.extBut b o (Nat.ne_of_lt (Nat.lt_of_lt_of_le (Heap.lt_size e) zC3)) (hk3 b o e)
          obtain ⟨F11, N11⟩ := led_new F7 N7 K8 zD3 (sb8.extBut _ _ hDC3 gD3)
          clear F7 N7
          dsimp only
          k_steps
          (rename Fr _ _ _ _ => F11); (rename News _ _ _ _ => N11)
          have kc : zs.toArray.size = 0 ↔ ∀ x ∈ q.ts, x ∈ knF nd t := by
            rw [List.size_toArray, hR3, List.take_of_length_le (by rw [hlT]; exact Nat.le_refl _), List.countP_eq_zero]
            simp
          refine eqNil (N11.get (tl (.head _))) (N11.get (.head _)) (Nat.lt_of_le_of_lt (Nat.le_add_right _ _) rA.hu) ?_
          dsimp only
          k_steps
          · (rename Fr _ _ _ _ => F12); (rename News _ _ _ _ => N12)
            rename_i hz
            have kb12 := (bk7 _ _ _ F12 N12 fun q hq => tl (tl (tl (tl (tl hq))))).less (W' := [C]) (al4 (.inl (.head _)) (.inr ⟨_, K6 _ _ gD7, N12.get (tl (tl (.head _)))⟩) (.inr ⟨_, K6 _ _ cK7, N12.get (tl (tl (tl (.head _))))⟩) (.inr ⟨_, K6 _ _ cN7, N12.get (tl (tl (tl (tl (.head _)))))⟩))
            exact hPT2 _ _ _ _ (kbCV (kb6.trans kb12)) F12.ns (clsNil rfl) (by rw [est, if_pos ⟨hx, kc.mp hz⟩]; exact hR2.append (.cons _ _ .nil)) (by rw [List.length_append]; exact Nat.succ_le_succ hys)
          · (rename Fr _ _ _ _ => F12); (rename News _ _ _ _ => N12)
            rename_i hz
            have kb12 := (bk7 _ _ _ F12 N12 fun q hq => tl (tl (tl (tl (tl hq))))).less (W' := [C]) (al4 (.inl (.head _)) (.inr ⟨_, K6 _ _ gD7, N12.get (tl (tl (.head _)))⟩) (.inr ⟨_, K6 _ _ cK7, N12.get (tl (tl (tl (.head _))))⟩) (.inr ⟨_, K6 _ _ cN7, N12.get (tl (tl (tl (tl (.head _)))))⟩))
            exact hPT2 _ _ _ _ (kbCV (kb6.trans kb12)) F12.ns (clsNil rfl) (by rw [est, if_neg fun c => hz (kc.mpr c.2), List.append_nil]; exact hR2) (Nat.le_succ_of_le hys)
      · rename_i hx
        exact hPT2 _ _ _ _ (kbCV kb6) hn6 (clsNil rfl) (by rw [est, if_neg (fun c => hx c.1), List.append_nil]; exact hR2) (Nat.le_succ_of_le hys)
    · rintro Df C ys h' tk' n' hk hD zD gDf hR hys hDC zC hCn
      refine ⟨hk, zC, fun h'' tk'' hn'' kb'' => ?_⟩
      rw [List.take_of_length_le (by unfold upTo; rw [List.length_map, List.length_range]; exact Nat.le_refl _)] at hR
      have nC : ∀ b o, hh.get? b = some o → b ≠ C := fun b o e => Nat.ne_of_lt (Nat.lt_of_lt_of_le (Heap.lt_size e) zC)
      have kL : KpB [L] hh h'' := fun b o hb e => kb'' b o (nin2 (fun z => hb (z ▸ .head _)) (nC b o e)) (hk b o e)
      have D9 := D7.up kL (List.forall_mem_singleton.mpr B.lf) (List.forall_mem_singleton.mpr (ns_noList hn7)) (nin1 nDL)
      have nfL : Df ≠ L := Nat.ne_of_gt (Nat.lt_of_lt_of_le kl zD)
      have gDf' := kb'' _ _ (nin2 nfL hDC) gDf
      obtain ⟨oD9, kvs9, gD9, hiD9, ekv9, hkv9⟩ := D9.d
      obtain ⟨rv9, rn9, gR9, hR9⟩ := D9.r
      have cK9 := kL _ _ (nin1 (Nat.ne_of_gt (Nat.lt_succ_of_lt (Nat.lt_succ_self L)))) cK7
      have cN9 := kL _ _ (nin1 nNL) cN7
      have fDf : s.heap.get? Df = none := fr _ (Nat.le_trans (Nat.le_of_lt kl) zD)
      refine rebaseFK [(Df, W.listOf ys.toArray n'), (aR, W.listOf rv9 rn9), (dK, oD9), (L + 1 + 1, oK2), (L + 1, oN)] G D9.kp hn'' B.ln (List.forall_mem_cons.mpr ⟨⟨gDf', nfL, .inr fDf⟩, al4 ⟨gR9, nRL7, .inr fA⟩ ⟨gD9, nDL, .inr fD⟩ ⟨cK9, Nat.ne_of_gt (Nat.lt_succ_of_lt (Nat.lt_succ_self L)), .inr fK⟩ ⟨cN9, nNL, .inr fN⟩⟩) fun h₀9 tail9 F9 N9 off9 lt9 X9 mean9 mg9 mb9 T9 hid9 bk9 => ?_
      simp only [List.cons_append, List.nil_append] at N9 F9
      have TR9 := topRead_of T9
      clear F8 N8 X8 T8 TR8
      dsimp only
      k_steps
      refine wpAny_For ?_
      k_steps
      refine wpAny_pyIter_list (IsL.isList gDf') ?_
      (rename Fr _ _ _ _ => F9); (rename News _ _ _ _ => N9)
      have n4 : h4.objs.size ≠ L := Nat.ne_of_gt zL4
      have st9 : h''.IsListIter h4.objs.size aN (t + 1) := st.1.at fun o e => kL _ _ (nin1 n4) e
      have n4' : h4.objs.size ≠ h''.objs.size := by
        obtain ⟨_, q, _⟩ := st9
        exact Nat.ne_of_lt (Heap.lt_size q)
      have fI9 : s.heap.get? h''.objs.size = none := fr _ (Nat.le_of_lt (ltN hn''.lt))
      refine forQ (fun j m h => m (Str.ofString "rounds") = some (.ref aR) ∧ m (Str.ofString "free") = some (.ref Df) ∧ DueSt prog w s.heap dK aR (knF nd t ++ (free nd.length (tkF nd) (knF nd t)).take j) (valF nd (t + 1)) (rdF nd t) h ∧ h.get? Df = some (W.listOf ys.toArray n') ∧ h.get? (L + 1 + 1) = some oK2 ∧ h.get? (L + 1) = some oN ∧ h.IsListIter h4.objs.size aN (t + 1) ∧ ∀ a ∈ [L, h''.objs.size], ∀ xs n, h.get? a ≠ some (W.listOf xs n)) (Walks.list (A := A') rA.hh _ _ (Nat.ne_of_lt (Heap.lt_size gDf')) ys.toArray) rfl rfl ?_ ?_ (F9.ns.keeps fun b o e => Heap.get?_push_of_some _ e) ?_ ?_ ?_
      · exact nin2 (Nat.ne_of_lt (ltN hn''.lt)) (Ne.symm nfL)
      · exact ⟨⟨_, Heap.get?_push_size _ rfl, rfl, rfl⟩, (IsL.isList gDf').at fun o e => Heap.get?_push_of_some _ e⟩
      · refine ⟨rfl, rfl, ?_, Heap.get?_push_of_some _ gDf', Heap.get?_push_of_some _ cK9, Heap.get?_push_of_some _ cN9, st9.at fun o e => Heap.get?_push_of_some _ e, al2 (ns_noList (hn''.push _)) (noIterL ⟨_, Heap.get?_push_size _ rfl, rfl, rfl⟩)⟩
        show DueSt _ _ _ _ _ (knF nd t ++ []) _ _ _
        rw [List.append_nil]
        exact (D9.val fun p hp => (valF_old hp).symm).up (V := []) (fun b o _ e => Heap.get?_push_of_some _ e) (fun _ h => absurd h List.not_mem_nil) (fun _ h => absurd h List.not_mem_nil) List.not_mem_nil
      · rintro PT2 PE2 j v2 m2 h5 h6 tk6 hPT2 hj hv2 ⟨e1, e2, D10, gF10, cK10, cN10, it10, nl10⟩ kb6 hn6 st6
        obtain ⟨p, tp, rfl, hp⟩ := ints_at (ns := free nd.length (tkF nd) (knF nd t)) hR ((List.getElem?_toArray ..).symm.trans hv2)
        obtain ⟨pU, pK, pT⟩ := mem_free.mp (List.mem_of_getElem? hp)
        obtain ⟨q, hq⟩ : ∃ q, nd[p.toNat]? = some q := ⟨_, List.getElem?_eq_getElem (by have := mem_ints.mp pU; exact Mine.q15 this.1 this.2)⟩
        have hqm := List.mem_of_getElem? hq
        have D11 := D10.up kb6 (al2 B.lf fI9) nl10 (nin2 nDL (Nat.ne_of_lt (Heap.lt_size gD9)))
        have gF11 := kb6 _ _ (nin2 nfL (Nat.ne_of_lt (Heap.lt_size gDf'))) gF10
        have cK11 := kb6 _ _ (nin2 (Nat.ne_of_gt (Nat.lt_succ_of_lt (Nat.lt_succ_self L))) (Nat.ne_of_lt (Heap.lt_size cK9))) cK10
        have cN11 := kb6 _ _ (nin2 nNL (Nat.ne_of_lt (Heap.lt_size cN9))) cN10
        obtain ⟨oD11, kvs11, gD11, hiD11, ekv11, hkv11⟩ := D11.d
        refine rebaseFK [(dK, oD11), (L + 1 + 1, oK2), (L + 1, oN)] G D11.kp hn6 B.ln (al3 ⟨gD11, nDL, .inr fD⟩ ⟨cK11, Nat.ne_of_gt (Nat.lt_succ_of_lt (Nat.lt_succ_self L)), .inr fK⟩ ⟨cN11, nNL, .inr fN⟩) fun h₀8 tail8 F8 N8 off8 lt8 X8 mean8 mg8 mb8 T8 hid8 bk8 => ?_
        simp only [List.cons_append, List.nil_append] at N8 F8
        have TR8 := topRead_of T8
        clear F9 N9 X9 T9 TR9
        obtain ⟨nn11, gNd11⟩ := (H.up D11.kp).ls
        obtain ⟨⟨tq, nq, gq⟩, ⟨vq, nT, gT, hT⟩, nR, gRt⟩ := (H.up D11.kp).lie q hqm
        have okq := H.ok q hqm
        k_steps
        have hpn := mem_ints.mp pU
        refine item_at (IsL.isList gNd11) p.toNat (by exact Mine.q241 hpn.1) (by rw [eN]; exact Mine.q238 hN13) (by rw [List.getElem?_map, hq]; rfl) ?_
        dsimp only
        k_steps
        (rename Fr _ _ _ _ => F8); (rename News _ _ _ _ => N8)
        refine kun_list F8 N8 (IsL.isList gq) rA.hh rfl rfl ?_
        clear F8 N8
        intro h7 F8 N8
        have nK1 := neN (dict_ne_cell gD11 hiD11 cK11 hoK2)
        have nK2 := neN (dict_ne_cell gD11 hiD11 cN11 hoN')
        have ht1 : ∀ x ∈ tail8, x.1 ≠ dK := fun x hx e => off8 x hx (e ▸ .head _)
        have pN : p ∉ knF nd t ++ (free nd.length (tkF nd) (knF nd t)).take j := fun z => (List.mem_append.mp z).elim pK (take_not ((free_pw _).imp fun h => Int.ne_of_lt h) hp)
        have zkv : kvs11.length ≤ sizeLine := by
          have h1 := congrArg List.length ekv11
          have h2 : (knF nd (t + 1)).length ≤ nd.length := kn_len nd.length (tkF nd) (t + 1)
          have h3 : (knF nd (t + 1)).length = (knF nd t).length + (free nd.length (tkF nd) (knF nd t)).length := List.length_append
          rw [List.length_map, List.length_append] at h1
          have h4 : ((free nd.length (tkF nd) (knF nd t)).take j).length ≤ (free nd.length (tkF nd) (knF nd t)).length := by rw [List.length_take]; exact Nat.min_le_right _ _
          have h5 : kvs11.length ≤ 13 := by exact Mine.q242 hN13 h1 h2 h3 h4
          exact Nat.le_trans h5 (Nat.le_of_ble_eq_true rfl)
        have fin2 : ∀ h12 tk12 m12 (b : Addr) n12 o12, h12.Ns L m12 → m12 (Str.ofString "rounds") = some (.ref aR) → m12 (Str.ofString "free") = some (.ref Df) → KpB [L, dK] h6 h12 → h12.get? dK = some o12 → o12.IsDictOf (intKind prog w) (stored kvs11 p (.ref b)) →
            h12.get? b = some (W.listOf ((valF nd (t + 1) p).map Value.bool).toArray n12) → PT2 .next { s with heap := h12, toks := tk12 } := by
          intro h12 tk12 m12 b n12 o12 hn12 a1 a2 kb12 g12 hd12 gb
          have kl : ∀ a xs n, h6.get? a = some (W.listOf xs n) → h12.get? a = some (W.listOf xs n) := fun a xs n g => kb12 _ _ (nin2 (fun z => ns_noList hn6 _ _ (z ▸ g)) (fun z => noDictL gD11 hiD11 _ _ (z ▸ g))) g
          have nIL : h''.objs.size ≠ L := Nat.ne_of_gt (ltN hn''.lt)
          have nID : h''.objs.size ≠ dK := Nat.ne_of_gt (Heap.lt_size gD9)
          have st12 : h12.IsListIter h''.objs.size Df (j + 1) := st6.1.at fun o e => kb12 _ _ (nin2 nIL nID) e
          refine hPT2 _ _ ⟨.inl rfl, _, _, _, rfl, hn12, ⟨st12, IsL.isList (kl _ _ _ gF11)⟩, a1, a2, ?_, kl _ _ _ gF11, kb12 _ _ (nin2 (Nat.ne_of_gt (Nat.lt_succ_of_lt (Nat.lt_succ_self L))) nK1.symm) cK11, kb12 _ _ (nin2 nNL nK2.symm) cN11, (it10.at fun o e => kb6 _ _ (nin2 n4 n4') e).at fun o e => kb12 _ _ (nin2 n4 nDI.symm) e, al2 (ns_noList hn12) (noIterL st12)⟩
          have etk : (free nd.length (tkF nd) (knF nd t)).take (j + 1) = (free nd.length (tkF nd) (knF nd t)).take j ++ [p] := by rw [List.take_add_one, hp]; rfl
          rw [etk, ← List.append_assoc]
          exact DueSt.step D11 (kp_new D11.kp kb12 (al2 B.lf fD)) gD11 hiD11 ekv11 hkv11 g12 hd12 pN gb kl
        obtain ⟨q', hq', _, ekd, etk', ebs⟩ := nd_at pU
        obtain rfl : q = q' := Option.some.inj (hq.symm.trans hq')
        k_steps
        · (rename Fr _ _ _ _ => F7); (rename News _ _ _ _ => N7)
          rename_i h8 hk1
          have kb8 := (bk8 _ _ _ F7 N7 fun q hq => tl (tl (tl hq))).less (W' := [L]) (al4 (.inl (.head _)) (.inr ⟨_, gD11, N7.get (.head _)⟩) (.inr ⟨_, cK11, N7.get (tl (.head _))⟩) (.inr ⟨_, cN11, N7.get (tl (tl (.head _)))⟩))
          have kl8 : ∀ a xs n, h6.get? a = some (W.listOf xs n) → h8.get? a = some (W.listOf xs n) := fun a xs n g => kb8 _ _ (nin1 fun z => ns_noList hn6 _ _ (z ▸ g)) g
          have kp8 : Kp s.heap h8 := kp_new D11.kp kb8 (List.forall_mem_singleton.mpr B.lf)
          have gT8 := kl8 _ _ _ gT
          have bL8 : n₀ ≤ h8.objs.size := Nat.le_trans B.ln (Nat.le_of_lt (ltN F7.ns.lt))
          refine compV (hb := h8) (cl := [(Str.ofString "known", L + 1 + 1)]) (by with_unfolding_all rfl) rfl (by decide) ?_
          dsimp only
          k_steps
          refine wpAny_pyIter_list (IsL.isList gT8) ?_
          have kpI : Kp h8 (h8.push (liObj q.T)) := fun b o e => Heap.get?_push_of_some _ e
          have zaT := Heap.lt_size gT8
          have zI : h8.objs.size < (h8.push (liObj q.T)).objs.size := by rw [Heap.size_push]; exact Nat.lt_succ_self _
          have hlT := hT.length
          have lT := (okq.big (by exact Mine.q243 hk1)).2
          rw [Array.length_toList] at hlT
          refine CompIs.mk h8.objs.size [h8.objs.size, q.T] [h8.objs.size] vq.size _ _ (fun _ _ i zs _ => ∃ rws : List (Addr × List Bool), zs = rws.map (fun p => Value.ref p.1) ∧ rws.map (·.2) = (q.ts.take i).map (valF nd t) ∧ ∀ x ∈ rws, x.2.length = 10 ∧ ∃ n, h6.get? x.1 = some (W.listOf (x.2.map Value.bool).toArray n)) (Nx.name (Walks.list (A := A') rA.hh _ _ (Nat.ne_of_lt zaT) vq) _ _) (by rw [sizeLine_eq]; exact Mine.q240 hlT lT) ⟨⟨_, Heap.get?_push_size _ rfl, rfl, rfl⟩, IsL.isList (kpI _ _ gT8)⟩ (al2 zI (Nat.lt_trans zaT zI)) kpI (Nat.le_of_lt zI) (List.forall_mem_singleton.mpr (Heap.get?_none_of_le (Nat.le_refl _))) (fun _ _ _ _ => ⟨[], rfl, rfl, fun _ h => absurd h List.not_mem_nil⟩) (fun _ _ _ _ _ _ q _ => q) ?_ ?_
          · rintro PT3 PE3 D3 C3 i v3 zs m3 h9 tk9 hC3 hV3 hcl3 gD3 hPT3 hi hv3 ⟨rws, rfl, hrw, hra⟩ hzs hk3 hn3
            obtain ⟨f, tf, rfl, hf⟩ := ints_at (i := i) hT ((Array.getElem?_toList ..).trans hv3)
            refine asgL rfl rfl rfl hn3 fun h10 tk10 hn10 kb10 => ?_
            have zC3 : (h8.objs.size : Nat) ≤ C3 := Nat.le_trans (Nat.le_of_lt zI) hC3
            have nC3 : ∀ b o, h8.get? b = some o → (b : Nat) ≠ C3 := fun b o e => Nat.ne_of_lt (Nat.lt_of_lt_of_le (Heap.lt_size e) zC3)
            have K10 : Kp h8 h10 := fun b o e => kb10 b o (nin1 (nC3 b o e)) (hk3 b o e)
            have gD8 := N7.get (.head _)
            have cK8 := N7.get (tl (.head _))
            refine rebaseFK [(dK, oD11), (L + 1 + 1, oK2)] G (kp8.trans K10) hn10 (Nat.le_trans bL8 zC3) (al2 ⟨K10 _ _ gD8, nC3 _ _ gD8, .inr fD⟩ ⟨K10 _ _ cK8, nC3 _ _ cK8, .inr fK⟩) fun h₀6 tail6 F6 N6 off6 lt6 X6 mean6 mg6 mb6 T6 hid6 bk6 => ?_
            simp only [List.cons_append, List.nil_append] at N6 F6
            have TR6 := topRead_of T6
            clear F7 N7 X8 T8 TR8
            refine test0 ?_
            dsimp only
            k_steps
            (rename Fr _ _ _ _ => F6); (rename News _ _ _ _ => N6)
            have hfk : f ∈ knF nd t := pT f (etk' ▸ List.mem_of_getElem? hf)
            obtain ⟨x, hx⟩ : ∃ x, valueAt kvs11 f = some x := Option.isSome_iff_exists.mp (valueAt_mem.mpr (ekv11 ▸ List.mem_append_left _ hfk))
            obtain ⟨ax, nx, rfl, gx⟩ := hkv11 f x (valueAt_some hx)
            rw [valF_old hfk] at gx
            refine kd_tail N6 (.head _) hiD11 hx ?_
            refine hPT3 _ _ _ _ (kbCV kb10) hn10 (clsNil rfl) ⟨rws ++ [(ax, valF nd t f)], by rw [List.map_append]; rfl, ?_, ?_⟩ (by rw [List.length_append]; exact Nat.succ_le_succ hzs)
            · rw [List.map_append, hrw, List.take_add_one, hf, List.map_append]; rfl
            · intro y hy
              rcases List.mem_append.mp hy with hy | hy
              · exact hra y hy
              · rw [List.mem_singleton.mp hy]
                exact ⟨valF_len H.ok t f hfk, nx, gx⟩
          · rintro D3 C3 zs h9 tk9 n9 hk3 hD3 zD3 gD3 ⟨rws, rfl, hrw, hra⟩ hzs hDC3 zC3 hCn3 h10 sb10
            rw [List.take_of_length_le (by rw [hlT]; exact Nat.le_refl _)] at hrw
            have K10 : Kp h8 h10 := fun b o e => sb10.extBut b o (Nat.ne_of_lt (Nat.lt_of_lt_of_le (Heap.lt_size e) zC3)) (hk3 b o e)
            obtain ⟨F11, N11⟩ := led_new F7 N7 K10 zD3 (sb10.extBut _ _ hDC3 gD3)
            dsimp only
            have gDK8 := N7.get (.head _)
            clear F7 N7
            k_steps
            (rename Fr _ _ _ _ => F11); (rename News _ _ _ _ => N11)
            have hrl := congrArg List.length hrw
            rw [List.length_map, List.length_map] at hrl
            refine gateC (rws := rws) (G.keep (kp8.trans K10)) (rA.less (by exact Mine.q244) (by exact Mine.q245)) (Nat.le_trans B.ln (Nat.le_of_lt (ltN F11.ns.lt))) (N11.get (.head _)) (fun x hx => ⟨(hra x hx).1, (hra x hx).2.imp fun n g => K10 _ _ (kl8 _ _ _ g)⟩) (by exact Mine.q246 lT hrl) ?_
            intro h13 tk13 D13 n13 kp13 fD13 zD13 gD13
            rw [hrw] at gD13
            obtain ⟨F13, N13⟩ := led_new F11 N11 kp13 zD13 gD13
            have lD3 := ltN (Heap.lt_size (N11.get (.head _)))
            have lDK := ltN (Heap.lt_size (N11.get (tl (.head _))))
            have nD1 : D13 ≠ dK := Nat.ne_of_gt (Nat.lt_of_lt_of_le lDK zD13)
            have nD3 : D3 ≠ dK := Nat.ne_of_gt (Nat.lt_of_lt_of_le (Heap.lt_size gDK8) zD3)
            clear F11 N11
            dsimp only
            k_steps
            (rename Fr _ _ _ _ => F13); (rename News _ _ _ _ => N13)
            refine' kd_set F13 N13 ?U hiD11 zkv ?_
            (case U => k_updF)
            intro h12 o12 F12 N12 hd12
            (try dsimp only at N12)
            k_steps
            have kb12 := (bk8 _ _ _ F12 N12 fun q hq => tl (tl (tl (tl (tl hq))))).less (W' := [L, dK]) (al4 (.inl (.head _)) (.inl (.tail _ (.head _))) (.inr ⟨_, cK11, N12.get (tl (tl (tl (.head _))))⟩) (.inr ⟨_, cN11, N12.get (tl (tl (tl (tl (.head _)))))⟩))
            exact fin2 _ _ _ _ _ _ F12.ns e1 e2 kb12 (N12.get (tl (tl (.head _)))) hd12 (by
              rw [valF_new pK, ekd, if_pos (by omega), etk']
              exact N12.get (.head _))
        · (rename Fr _ _ _ _ => F7); (rename News _ _ _ _ => N7)
          rename_i hk1
          refine' kd_set F7 N7 ?U hiD11 zkv ?_
          (case U => k_updF)
          intro h12 o12 F12 N12 hd12
          (try dsimp only at N12)
          k_steps
          have kb12 := (bk8 _ _ _ F12 N12 fun q hq => tl (tl (tl hq))).less (W' := [L, dK]) (al4 (.inl (.head _)) (.inl (.tail _ (.head _))) (.inr ⟨_, cK11, N12.get (tl (.head _))⟩) (.inr ⟨_, cN11, N12.get (tl (tl (.head _)))⟩))
          exact fin2 _ _ _ _ _ _ F12.ns e1 e2 kb12 (N12.get (.head _)) hd12 (by
            rw [valF_new pK, ekd, if_neg (by omega), ebs]
            exact kb12 _ _ (nin2 (fun z => ns_noList hn6 _ _ (z ▸ gRt)) (fun z => noDictL gD11 hiD11 _ _ (z ▸ gRt))) gRt)
      · rintro m h13 h14 tk14 ⟨e1, e2, D10, gF10, cK10, cN10, it10, nl10⟩ kb14 hn14
        have hRf : IntsAre ys (free nd.length (tkF nd) (knF nd t)) := hR
        rw [show (free nd.length (tkF nd) (knF nd t)).take ys.toArray.size = free nd.length (tkF nd) (knF nd t) from List.take_of_length_le (by rw [← hRf.length, List.size_toArray]; exact Nat.le_refl _)] at D10
        have D12 := D10.up kb14 (List.forall_mem_singleton.mpr fI9) (fun a ha => nl10 a (tl ha)) (nin1 (Nat.ne_of_lt (Heap.lt_size gD9)))
        have gF12 := kb14 _ _ (nin1 (Nat.ne_of_lt (Heap.lt_size gDf'))) gF10
        have cK12 := kb14 _ _ (nin1 (Nat.ne_of_lt (Heap.lt_size cK9))) cK10
        have cN12 := kb14 _ _ (nin1 (Nat.ne_of_lt (Heap.lt_size cN9))) cN10
        have it12 := it10.at fun o e => kb14 _ _ (nin1 n4') e
        have em14 := (named e1).trans (congrArg (fun f : Str → Option Value => fun y => if y = Str.ofString "rounds" then some (.ref aR) else f y) (named e2))
        replace hn14 : h14.Ns L m := hn14
        rw [em14] at hn14
        obtain ⟨oD12, kvs12, gD12, hiD12, _⟩ := id D12.d
        obtain ⟨rv12', rn12, gR12, hR12⟩ := id D12.r
        obtain ⟨rv12, rfl⟩ : ∃ l : List Value, rv12' = l.toArray := ⟨rv12'.toList, by simp⟩
        have hR12 : RoundsAt h14 rv12 (rdF nd t) := hR12
        have fin3 : ∀ h15 tk15 m15 (aR' : Addr) vs' n', h15.Ns L m15 → m15 (Str.ofString "rounds") = some (.ref aR') → s.heap.get? aR' = none → KpB [L] h14 h15 → h15.get? aR' = some (W.listOf vs' n') → RoundsAt h15 vs'.toList (rdF nd (t + 1)) → PT .next { s with heap := h15, toks := tk15 } := by
          intro h15 tk15 m15 aR' vs' n' hn15 a1 fa kb15 g15 r15
          have kl15 : ∀ a xs n, h14.get? a = some (W.listOf xs n) → h15.get? a = some (W.listOf xs n) := fun a xs n g => kb15 _ _ (nin1 fun z => ns_noList hn14 _ _ (z ▸ g)) g
          have kp15 := kp_new D12.kp kb15 (List.forall_mem_singleton.mpr B.lf)
          have it15 := it12.at fun o e => kb15 _ _ (nin1 n4) e
          exact hPT _ _ ⟨.inl rfl, _, _, _, rfl, hn15, ⟨it15, by
            obtain ⟨_, g⟩ := (H.up kp15).ls
            exact IsL.isList g⟩, ⟨aR', a1, fa, D12.round kp15 (fun o e => kb15 _ _ (nin1 nDL) e) kl15 g15 r15⟩, kb15 _ _ (nin1 (Nat.ne_of_gt (Nat.lt_succ_of_lt (Nat.lt_succ_self L)))) cK12, kb15 _ _ (nin1 nNL) cN12, al2 (ns_noList hn15) (noIterL it15)⟩
        refine rebaseFK [(Df, W.listOf ys.toArray n'), (aR, W.listOf rv12.toArray rn12), (dK, oD12), (L + 1 + 1, oK2), (L + 1, oN)] G D12.kp hn14 B.ln (List.forall_mem_cons.mpr ⟨⟨gF12, nfL, .inr fDf⟩, al4 ⟨gR12, nRL7, .inr fA⟩ ⟨gD12, nDL, .inr fD⟩ ⟨cK12, Nat.ne_of_gt (Nat.lt_succ_of_lt (Nat.lt_succ_self L)), .inr fK⟩ ⟨cN12, nNL, .inr fN⟩⟩) fun h₀8 tail8 F8 N8 off8 lt8 X8 mean8 mg8 mb8 T8 hid8 bk8 => ?_
        simp only [List.cons_append, List.nil_append] at N8 F8
        have TR8 := topRead_of T8
        clear F9 N9 X9 T9 TR9
        k_steps
        (rename Fr _ _ _ _ => F7); (rename News _ _ _ _ => N7)
        have hrz : rv12.length + 1 ≤ sizeLine := by
          have h1 := hR12.1
          have h2 := rdF_len nd t
          rw [eN] at hi
          exact Nat.le_trans (show rv12.length + 1 ≤ 14 by exact Mine.q247 hi hN13 h1 h2) (Nat.le_of_ble_eq_true rfl)
        refine ke_ne_ints (ys := []) (IsL.isList (N7.get (tl (.head _)))) (IsL.isList (N7.get (.head _))) hRf .nil (by have := rA.hu; exact Mine.q248 this) ?_
        dsimp only
        k_steps
        · (rename Fr _ _ _ _ => F7); (rename News _ _ _ _ => N7)
          rename_i hz _ _ _
          have zN7 := ltN F7.ns.lt
          refine add_lists F7 N7 (vs := rv12) (ws := []) (IsL.isList (N7.get (tl (tl (tl (.head _)))))) (IsL.isList (N7.get (.head _))) ?_ (Nat.le_of_succ_le hrz)
          intro h16 F16 N16
          clear F7 N7
          dsimp only
          k_steps
          (rename Fr _ _ _ _ => F17); (rename News _ _ _ _ => N17)
          have kb15 := (bk8 _ _ _ F17 N17 fun q hq => tl (tl (tl (tl (tl (tl (tl (tl hq)))))))).less (W' := [L]) (List.forall_mem_cons.mpr ⟨.inl (.head _), List.forall_mem_cons.mpr ⟨.inr ⟨_, gF12, N17.get (tl (tl (tl (.head _))))⟩, al4 (.inr ⟨_, gR12, N17.get (tl (tl (tl (tl (.head _)))))⟩) (.inr ⟨_, gD12, N17.get (tl (tl (tl (tl (tl (.head _))))))⟩) (.inr ⟨_, cK12, N17.get (tl (tl (tl (tl (tl (tl (.head _)))))))⟩) (.inr ⟨_, cN12, N17.get (tl (tl (tl (tl (tl (tl (tl (.head _))))))))⟩)⟩⟩)
          have kl15 : ∀ a xs n, h14.get? a = some (W.listOf xs n) → _ := fun a xs n g => kb15 _ _ (nin1 fun z => ns_noList hn14 _ _ (z ▸ g)) g
          refine fin3 _ _ _ _ _ _ F17.ns rfl (fr _ (Nat.le_of_lt zN7)) kb15 (N17.get (.head _)) ?_
          show RoundsAt _ (rv12 ++ []) (rdF nd t ++ if free nd.length (tkF nd) (knF nd t) = [] then [] else [free nd.length (tkF nd) (knF nd t)])
          rw [if_pos (of_decide_eq_true hz), List.append_nil, List.append_nil]
          exact hR12.up kl15
        · (rename Fr _ _ _ _ => F7); (rename News _ _ _ _ => N7)
          rename_i hz _ _ _
          have zN7 := ltN F7.ns.lt
          refine add_lists F7 N7 (vs := rv12) (ws := [.ref Df]) (IsL.isList (N7.get (tl (tl (tl (.head _)))))) (IsL.isList (N7.get (.head _))) ?_ hrz
          intro h16 F16 N16
          clear F7 N7
          dsimp only
          k_steps
          (rename Fr _ _ _ _ => F17); (rename News _ _ _ _ => N17)
          have kb15 := (bk8 _ _ _ F17 N17 fun q hq => tl (tl (tl (tl (tl (tl (tl (tl hq)))))))).less (W' := [L]) (List.forall_mem_cons.mpr ⟨.inl (.head _), List.forall_mem_cons.mpr ⟨.inr ⟨_, gF12, N17.get (tl (tl (tl (.head _))))⟩, al4 (.inr ⟨_, gR12, N17.get (tl (tl (tl (tl (.head _)))))⟩) (.inr ⟨_, gD12, N17.get (tl (tl (tl (tl (tl (.head _))))))⟩) (.inr ⟨_, cK12, N17.get (tl (tl (tl (tl (tl (tl (.head _)))))))⟩) (.inr ⟨_, cN12, N17.get (tl (tl (tl (tl (tl (tl (tl (.head _))))))))⟩)⟩⟩)
          have kl15 : ∀ a xs n, h14.get? a = some (W.listOf xs n) → _ := fun a xs n g => kb15 _ _ (nin1 fun z => ns_noList hn14 _ _ (z ▸ g)) g
          refine fin3 _ _ _ _ _ _ F17.ns rfl (fr _ (Nat.le_of_lt zN7)) kb15 (N17.get (.head _)) ?_
          show RoundsAt _ (rv12 ++ [.ref Df]) (rdF nd t ++ if free nd.length (tkF nd) (knF nd t) = [] then [] else [free nd.length (tkF nd) (knF nd t)])
          rw [if_neg (of_decide_eq_false hz)]
          exact (hR12.up kl15).snoc (kl15 _ _ _ gF12) hRf
  · rintro m h13 h14 tk14 ⟨⟨aR, em, fA, D⟩, cK, cN, nl⟩ kb14 hn14
    rw [eN] at D
    have D14 := D.up kb14 (List.forall_mem_singleton.mpr fI) (fun a ha => nl a (tl ha)) (nin1 (Nat.ne_of_lt (Heap.lt_size gD4)))
    have cK14 := kb14 _ _ (nin1 (Nat.ne_of_lt (Heap.lt_size gK2))) cK
    have cN14 := kb14 _ _ (nin1 (Nat.ne_of_lt (Heap.lt_size gN4))) cN
    replace hn14 : h14.Ns L m := hn14
    rw [named em] at hn14
    obtain ⟨oD14, kvs14, gD14, hiD14, ekv14, hkv14⟩ := id D14.d
    refine rebaseFK [(dK, oD14), (L + 1 + 1, oK2), (L + 1, oN)] G D14.kp hn14 B.ln (al3 ⟨gD14, nDL, .inr fD⟩ ⟨cK14, Nat.ne_of_gt (Nat.lt_succ_of_lt (Nat.lt_succ_self L)), .inr fK⟩ ⟨cN14, nNL, .inr fN⟩) fun h₀8 tail8 F8 N8 off8 lt8 X8 mean8 mg8 mb8 T8 hid8 bk8 => ?_
    simp only [List.cons_append, List.nil_append] at N8 F8
    have TR8 := topRead_of T8
    clear F9 N9 X9 T9 TR9
    k_steps
    have hk13 : kvs14.length ≤ 13 := by
      have h1 := congrArg List.length ekv14
      have h2 : (knF nd nd.length).length ≤ nd.length := kn_len nd.length (tkF nd) nd.length
      have h3 := H.len
      rw [List.length_map] at h1; exact Mine.q249 h1 h2 h3.2
    obtain ⟨nn14, gNd14⟩ := (H.up D14.kp).ls
    refine call_len_dict (knd := intKind prog w) loD (Heap.dictOf_iff.mpr ⟨oD14, gD14, hiD14⟩) (by omega) ?_
    dsimp only
    k_steps
    refine call_len_list (items := (nd.map fun q => Value.ref q.a).toArray) (IsL.isList gNd14) (by rw [eN]; have := H.len; omega) ?_
    dsimp only
    k_steps
    have bL14 : n₀ ≤ h14.objs.size := Nat.le_trans B.ln (Nat.le_of_lt (ltN hn14.lt))
    obtain ⟨ep, hDA⟩ := (Heap.dictOf_iff.mpr ⟨oD14, gD14, hiD14⟩).dictAt
    refine compV (hb := h14) (cl := [(Str.ofString "known", L + 1 + 1)]) (by with_unfolding_all rfl) rfl (by decide) ?_
    k_steps
    refine wpAny_pyIter_dict loD hDA ?_
    have kpI : Kp h14 (h14.push { cls := .type "dict_keyiterator", data := .fields #[.ref dK, .int 0 0, .int kvs14.length 0, .int ep 0] }) := fun b o e => Heap.get?_push_of_some _ e
    have zaD := Heap.lt_size gD14
    have zI : h14.objs.size < (h14.push { cls := .type "dict_keyiterator", data := .fields #[.ref dK, .int 0 0, .int kvs14.length 0, .int ep 0] }).objs.size := by rw [Heap.size_push]; exact Nat.lt_succ_self _
    refine CompIs.mk h14.objs.size [h14.objs.size, dK] [h14.objs.size] kvs14.length _ _ (fun D C i zs h => (h14.objs.size + 1 ≤ D ∧ ∀ a, Value.ref a ∈ zs → a ≠ D ∧ a ≠ C ∧ a ≠ h14.objs.size) ∧ SgAt h zs ((knF nd nd.length).take i) fun p => Txt.join "" (sgS (valF nd nd.length p) 10)) (Nx.name (Walks.dictKeys (knd := intKind prog w) (A := A') rA.hh _ _ (Nat.ne_of_lt zaD) kvs14 ep) _ _) (by rw [sizeLine_eq]; exact Mine.q237 hk13) ⟨⟨_, Heap.get?_push_size _ rfl, rfl, rfl⟩, hDA.push _⟩ (al2 zI (Nat.lt_trans zaD zI)) kpI (Nat.le_of_lt zI) (List.forall_mem_singleton.mpr (Heap.get?_none_of_le (Nat.le_refl _))) (fun _ _ d _ => ⟨⟨by rw [Heap.size_push] at d; exact d, fun _ h => absurd h List.not_mem_nil⟩, rfl, fun i p h => by cases h⟩) ?_ ?_ ?_
    · rintro D C i zs h h' ⟨r1, r2⟩ kb
      refine ⟨r1, r2.1, fun i p hp => ?_⟩
      obtain ⟨a, n, t, t', q, g⟩ := r2.2 i p hp
      have n3 := r1.2 a (List.mem_of_getElem? q)
      exact ⟨a, n, t, t', q, kb _ _ (nin3 n3.1 n3.2.1 n3.2.2) g⟩
    · rintro PT3 PE3 D3 C3 i v3 zs m3 h9 tk9 hC3 hV3 hcl3 gD3 hPT3 hi hv3 hR3 hzs hk3 hn3
      obtain ⟨⟨zD3, hne3⟩, hSg3⟩ := hR3
      obtain ⟨p, x, hx, hvx⟩ := hv3
      obtain ⟨tx, rfl⟩ := Value.isInt_shape hvx
      have hki : (knF nd nd.length)[i]? = some p := by
        rw [← ekv14, List.getElem?_map, hx]; rfl
      have hpk := List.mem_of_getElem? hki
      have nDC : D3 ≠ C3 := fun z => ns_noList hn3 _ _ (z ▸ gD3)
      refine asgL rfl rfl rfl hn3 fun h10 tk10 hn10 kb10 => ?_
      replace hn10 : h10.Ns C3 _ := hn10
      have zC3 : (h14.objs.size : Nat) ≤ C3 := Nat.le_trans (Nat.le_of_lt zI) hC3
      have nC3 : ∀ b o, h14.get? b = some o → (b : Nat) ≠ C3 := fun b o e => Nat.ne_of_lt (Nat.lt_of_lt_of_le (Heap.lt_size e) zC3)
      have K10 : Kp h14 h10 := fun b o e => kb10 b o (nin1 (nC3 b o e)) (hk3 b o e)
      have gD10 := K10 _ _ gD14
      have cK10 := K10 _ _ cK14
      have fD3 : s.heap.get? D3 = none := fr _ (Nat.le_trans (Nat.le_of_lt (ltN hn14.lt)) (Nat.le_of_succ_le zD3))
      refine rebaseFK [(D3, W.listOf zs.toArray zs.length), (dK, oD14), (L + 1 + 1, oK2)] G (D14.kp.trans K10) hn10 (Nat.le_trans bL14 zC3) (al3 ⟨kb10 _ _ (nin1 nDC) gD3, nDC, .inr fD3⟩ ⟨gD10, nC3 _ _ gD14, .inr fD⟩ ⟨cK10, nC3 _ _ cK14, .inr fK⟩) fun h₀6 tail6 F6 N6 off6 lt6 X6 mean6 mg6 mb6 T6 hid6 bk6 => ?_
      simp only [List.cons_append, List.nil_append] at N6 F6
      have TR6 := topRead_of T6
      clear F8 N8 X8 T8 TR8
      refine test0 ?_
      dsimp only
      k_steps
      (rename Fr _ _ _ _ => F6); (rename News _ _ _ _ => N6)
      obtain ⟨x', hx'⟩ : ∃ x, valueAt kvs14 p = some x := Option.isSome_iff_exists.mp (valueAt_mem.mpr (ekv14 ▸ hpk))
      obtain ⟨ax, nx, rfl, gx⟩ := hkv14 p x' (valueAt_some hx')
      refine kd_tail N6 (tl (.head _)) hiD14 hx' ?_
      dsimp only
      k_steps
      (rename Fr _ _ _ _ => F6); (rename News _ _ _ _ => N6)
      refine sgC (G.keep (D14.kp.trans K10)) (rA.less (by exact Mine.q250) (by exact Mine.q251)) (Nat.le_trans (Nat.le_trans bL14 zC3) (Nat.le_of_lt (ltN hn10.lt))) (K10 _ _ gx) (valF_len H.ok _ p hpk) ?_
      intro h11 tk11 t11 kp11
      have F11 := F6.keeps kp11
      have N11 := N6.grown kp11
      clear F6 N6
      dsimp only
      k_steps
      (rename Fr _ _ _ _ => F12); (rename News _ _ _ _ => N12)
      rename_i l12 h12 lt12
      have kb12 := (bk6 _ _ _ F12 N12 fun q hq => tl (tl (tl (tl hq)))).less (W' := [C3]) (al4 (.inl (.head _)) (.inr ⟨_, kb10 _ _ (nin1 nDC) gD3, N12.get (tl (.head _))⟩) (.inr ⟨_, gD10, N12.get (tl (tl (.head _)))⟩) (.inr ⟨_, cK10, N12.get (tl (tl (tl (.head _))))⟩))
      have kb13 := kb10.trans kb12
      have lD : D3 < l12 := ltN lt12.1
      refine hPT3 _ _ _ _ (kbCV kb13) F12.ns (clsNil rfl) ⟨⟨zD3, fun a ha => ?_⟩, ?_⟩ (by rw [List.length_append]; exact Nat.succ_le_succ hzs)
      · rcases List.mem_append.mp ha with ha | ha
        · exact hne3 a ha
        · obtain rfl : a = l12 := Value.ref.inj (List.mem_singleton.mp ha)
          exact ⟨Nat.ne_of_gt lD, (N12 _ (.head _)).2.1, Nat.ne_of_gt (Nat.lt_trans zD3 lD)⟩
      · rw [List.take_add_one, hki]
        exact (hSg3.up fun a xs n g => kb13 _ _ (nin1 fun z => ns_noList hn3 _ _ (z ▸ g)) g).snoc (N12.get (.head _))
    · rintro D3 C3 zs h9 tk9 n9 hk3 hD3 zD3 gD3 ⟨⟨zD4, hne3⟩, hSg3⟩ hzs hDC3 zC3 hCn3 h10 sb10
      have K10 : Kp h14 h10 := fun b o e => sb10.extBut b o (Nat.ne_of_lt (Nat.lt_of_lt_of_le (Heap.lt_size e) zC3)) (hk3 b o e)
      have gD10 := sb10.extBut _ _ hDC3 gD3
      have hn10 := hn14.keeps K10
      clear F8 N8
      dsimp only
      k_steps
      obtain ⟨mC, hnC⟩ := hCn3
      have ekl : kvs14.length = (knF nd nd.length).length := by rw [← ekv14, List.length_map]
      rw [List.take_of_length_le (by rw [ekl]; exact Nat.le_refl _)] at hSg3
      have nDL3 : D3 ≠ L := Nat.ne_of_gt (Nat.lt_of_lt_of_le (ltN hn14.lt) zD3)
      refine sortSg G (D14.kp.trans K10) hn10 B.ln gD10 nDL3 (fr _ (Nat.le_trans (Nat.le_of_lt (ltN hn14.lt)) zD3)) (hSg3.up fun a xs n g => sb10.extBut _ _ (fun z => ns_noList hnC _ _ (z ▸ g)) g) (fun a ha => (hne3 a ha).1) (kn_nodup _) (fun p hp => kn_ints hp) h2K (by exact Mine.q252 hk13 ekl) (by have := rA.hu; show A'.units + 1 + 1 < _; exact Mine.q253 this) ?_
      intro h15 R15 us15 e15 hn15 kb15 lR15 gR15 S15
      have kp15 := kp_new (D14.kp.trans K10) kb15 (List.forall_mem_singleton.mpr B.lf)
      refine rebaseFK [] G kp15 hn15 B.ln (fun _ h => absurd h List.not_mem_nil) fun h₀6 tail6 F6 N6 off6 lt6 X6 mean6 mg6 mb6 T6 hid6 bk6 => ?_
      simp only [List.nil_append] at N6 F6
      have TR6 := topRead_of T6
      clear X8 T8 TR8
      dsimp only
      k_steps
      (rename Fr _ _ _ _ => F7); (rename News _ _ _ _ => N7)
      have kb7 := bk6 _ _ _ F7 N7 fun q hq => tl hq
      obtain ⟨rv, rn, gR14, hR14⟩ := D14.r
      have kl7 : ∀ a xs n, h15.get? a = some (W.listOf xs n) → _ := fun a xs n g => kb7 _ _ (nin1 fun z => ns_noList hn15 _ _ (z ▸ g)) g
      have kl15 : ∀ a xs n, h14.get? a = some (W.listOf xs n) → h15.get? a = some (W.listOf xs n) := fun a xs n g => kb15 _ _ (nin1 fun z => ns_noList hn14 _ _ (z ▸ g)) (K10 _ _ g)
      refine hQ1 _ _ (ret _ _ _ (kp_new kp15 kb7 (List.forall_mem_singleton.mpr B.lf)) ⟨aR, R15, 0, rv, rn, us15.toArray, e15, ?_, kl7 _ _ _ (kl15 _ _ _ gR14), (hR14.up kl15).up kl7, kl7 _ _ _ gR15, S15.up kl7⟩)
      rw [show decide ((knF nd nd.length).length < nd.length) = decide ((kvs14.length : Int) < ((nd.map fun q => Value.ref q.a).toArray.size : Int)) by rw [eN, ekl]; exact decide_eq_decide.mpr Int.ofNat_lt.symm]
      exact N7.get (.head _))
end Mine
end
section
open PySem PySem.W PyProof.Rows PySem.Calls PySem.Spec
set_option Elab.async false
set_option maxRecDepth 100000
set_option maxHeartbeats 4000000
namespace Mine
/-! the plain law of the signs -/
noncomputable def chrN (k : Nat) (bs : List Bool) : Nat := if bs[k]? = some true then (sgn.cps[k]?).getD 0 else 45
noncomputable abbrev chr (k : Nat) (bs : List Bool) : Str := ⟨#[chrN k bs]⟩
theorem sgS_chr (bs : List Bool) (n : Nat) : sgS bs n = (List.range n).map fun k => chr k bs := by
  unfold sgS
  refine List.map_congr_left fun j _ => ?_
  unfold chr chrN
  split <;> rfl
theorem join_one : ∀ cs : List Nat, Txt.join "" (cs.map fun c => (⟨#[c]⟩ : Str)) = ⟨cs.toArray⟩ := by
  intro cs
  have key : ∀ (l : List Nat) (acc : Array Nat), (l.map fun c => (⟨#[c]⟩ : Str)).foldl (fun acc p => acc ++ (Str.ofString "").cps ++ p.cps) acc = acc ++ l.toArray := by
    intro l
    induction l with
    | nil => intro acc; simp
    | cons c l ih =>
      intro acc
      rw [List.map_cons, List.foldl_cons, ih]
      apply Array.ext'
      simp [show (Str.ofString "").cps = #[] from rfl]
  cases cs with
  | nil => rfl
  | cons c l =>
    show (⟨(l.map fun c => (⟨#[c]⟩ : Str)).foldl (fun acc p => acc ++ (Str.ofString "").cps ++ p.cps) #[c]⟩ : Str) = _
    rw [key]
    congr 1
    apply Array.ext'
    simp
theorem sig_cps (bs : List Bool) : (Txt.join "" (sgS bs 10)).cps = ((List.range 10).map fun k => chrN k bs).toArray := by
  rw [sgS_chr, show ((List.range 10).map fun k => chr k bs) = ((List.range 10).map fun k => chrN k bs).map fun c => (⟨#[c]⟩ : Str) by rw [List.map_map]; rfl, join_one]
theorem sig_size (bs : List Bool) : (Txt.join "" (sgS bs 10)).cps.size = 10 := by rw [sig_cps]; simp
theorem chrN_lt (k : Nat) (hk : k < 10) (bs : List Bool) : 45 ≤ chrN k bs ∧ chrN k bs < 128 := by
  unfold chrN
  split
  · have : ∀ k, k < 10 → 45 ≤ (sgn.cps[k]?).getD 0 ∧ (sgn.cps[k]?).getD 0 < 128 := by decide +kernel
    exact this k hk
  · decide
theorem sig_ascii (bs : List Bool) : (Txt.join "" (sgS bs 10)).cps.all (· < 128) = true := by
  rw [sig_cps, List.all_toArray, List.all_eq_true]
  intro x hx
  obtain ⟨k, hk, rfl⟩ := List.mem_map.mp hx
  exact decide_eq_true (chrN_lt k (List.mem_range.mp hk) bs).2
theorem sig_at (bs : List Bool) (k : Nat) (hk : k < 10) : (Txt.join "" (sgS bs 10)).cps[k]? = some (chrN k bs) := by
  rw [sig_cps, List.getElem?_toArray, List.getElem?_map, List.getElem?_range hk]; rfl
/-! filemode's table in figures: cheap to reckon with -/
noncomputable def fmN : List (List (Int × Nat)) := [[(40960, 108), (49152, 115), (32768, 45), (24576, 98), (16384, 100), (8192, 99), (4096, 112)], [(256, 114)], [(128, 119)], [(2112, 115), (2048, 83), (64, 120)], [(32, 114)], [(16, 119)], [(1032, 115), (1024, 83), (8, 120)], [(4, 114)], [(2, 119)], [(513, 116), (512, 84), (1, 120)]]
theorem fmN_of : fmN.map (fun t => t.map fun p => (p.1, (⟨#[p.2]⟩ : Str))) = fmTabs.map fun t => t.2.map fun p => (p.2.1.1, p.2.2.1) := by decide +kernel
noncomputable def pickN (i : Nat) (md : Int) (t : List (Int × Nat)) : Nat := match t.find? fun p => fmTest i md p.1 with
  | some p => p.2
  | none => if i = 0 then 63 else 45
theorem pickN_of (i : Nat) (md : Int) : ∀ (t : List (Addr × (Int × Nat) × (Str × Nat))) (u : List (Int × Nat)), u.map (fun p => (p.1, (⟨#[p.2]⟩ : Str))) = t.map (fun p => (p.2.1.1, p.2.2.1)) → pickT i md t = ⟨#[pickN i md u]⟩
  | [], [], _ => by
    unfold pickT pickN
    rw [List.find?_nil, List.find?_nil]
    dsimp only
    split <;> rfl
  | [], _ :: _, h => by cases h
  | _ :: _, [], h => by cases h
  | a :: t, b :: u, h => by
    rw [List.map_cons, List.map_cons] at h
    obtain ⟨h1, h2⟩ := List.cons.inj h
    obtain ⟨h3, h4⟩ := Prod.mk.inj h1
    have ih := pickN_of i md t u h2
    unfold pickT pickN at ih ⊢
    rw [List.find?_cons, List.find?_cons, h3]
    cases fmTest i md a.2.1.1 with
    | true => exact h4.symm
    | false => exact ih
theorem fmS_N (md : Int) : fmS md = (fmN.mapIdx fun i t => pickN i md t).map fun c => (⟨#[c]⟩ : Str) := by
  unfold fmS
  apply List.ext_getElem?
  intro i
  rw [List.getElem?_map, List.getElem?_mapIdx, List.getElem?_mapIdx]
  have e : (fmN.map (fun t => t.map fun p => (p.1, (⟨#[p.2]⟩ : Str))))[i]? = (fmTabs.map fun t => t.2.map fun p => (p.2.1.1, p.2.2.1))[i]? := by rw [fmN_of]
  rw [List.getElem?_map, List.getElem?_map] at e
  cases h1 : fmN[i]? with
  | none =>
    rw [h1] at e
    cases h2 : fmTabs[i]? with
    | none => rfl
    | some t => rw [h2] at e; cases e
  | some u =>
    rw [h1] at e
    cases h2 : fmTabs[i]? with
    | none => rw [h2] at e; cases e
    | some t =>
      rw [h2] at e
      exact congrArg some (pickN_of i md t.2 u (Option.some.inj e))
theorem sum_filter (f : Nat → Bool) (g : Nat → Int) : ∀ l : List Nat, ((l.filter f).map g).sum = (l.map fun j => if f j = true then g j else 0).sum
  | [] => rfl
  | a :: l => by
    have ih := sum_filter f g l
    rw [List.filter_cons, List.map_cons, List.sum_cons]
    by_cases c : f a = true
    · rw [if_pos c, if_pos c, List.map_cons, List.sum_cons, ih]
    · rw [if_neg c, if_neg c, ih, Int.zero_add]
noncomputable def bitN (b : Bool) (n : Nat) : Nat := bif b then n else 0
theorem el (b : Bool) (k n : Nat) (h : (2 : Int) ^ k = (n : Int)) : (if (some b == some true) = true then (2 : Int) ^ k else 0) = ((bitN b n : Nat) : Int) := by
  cases b
  · rfl
  · exact h
noncomputable def testM (i m b : Nat) : Bool := bif Nat.beq i 0 then Nat.beq (Nat.land m 61440) b else Nat.beq (Nat.land m b) b
noncomputable def pickM (i m : Nat) : List (Nat × Nat) → Nat
  | [] => bif Nat.beq i 0 then 63 else 45
  | p :: t => bif testM i m p.1 then p.2 else pickM i m t
noncomputable def fmM : List (List (Nat × Nat)) := [[(40960, 108), (49152, 115), (32768, 45), (24576, 98), (16384, 100), (8192, 99), (4096, 112)], [(256, 114)], [(128, 119)], [(2112, 115), (2048, 83), (64, 120)], [(32, 114)], [(16, 119)], [(1032, 115), (1024, 83), (8, 120)], [(4, 114)], [(2, 119)], [(513, 116), (512, 84), (1, 120)]]
theorem fmN_M : fmN = fmM.map fun t => t.map fun p => ((p.1 : Int), p.2) := rfl
theorem testM_of (i m b : Nat) : fmTest i m b = testM i m b := by
  have h : ∀ x y : Nat, Builtin.bitAnd x y = ((Nat.land x y : Nat) : Int) := fun x y => bitAnd_pp (Int.natCast_nonneg _) (Int.natCast_nonneg _)
  have q : ∀ x y : Nat, decide ((x : Int) = (y : Int)) = Nat.beq x y := fun x y => by
    cases c : Nat.beq x y with
    | true => exact decide_eq_true (congrArg _ (Nat.eq_of_beq_eq_true c))
    | false => exact decide_eq_false fun z => Nat.ne_of_beq_eq_false c (Int.ofNat_inj.mp z)
  unfold fmTest testM
  rw [h, show (61440 : Int) = ((61440 : Nat) : Int) from rfl, h, q, q]
  cases i <;> rfl
theorem pickM_of (i m : Nat) : ∀ t : List (Nat × Nat), pickN i m (t.map fun p => ((p.1 : Int), p.2)) = pickM i m t
  | [] => by cases i <;> rfl
  | p :: t => by
    have ih := pickM_of i m t
    unfold pickN at ih ⊢
    rw [List.map_cons, List.find?_cons, testM_of, pickM]
    cases testM i m p.1 with
    | true => rfl
    | false => exact ih
noncomputable abbrev mdN (b0 b1 b2 b3 b4 b5 b6 b7 b8 b9 : Bool) : Nat := (bif b0 then 16384 else 32768) + (bitN b1 256 + (bitN b2 128 + (bitN b3 64 + (bitN b4 32 + (bitN b5 16 + (bitN b6 8 + (bitN b7 4 + (bitN b8 2 + (bitN b9 1 + 0)))))))))
noncomputable def rowM (b0 b1 b2 b3 b4 b5 b6 b7 b8 b9 : Bool) (m : Nat) : Bool :=
  Nat.beq (pickM 0 m [(40960, 108), (49152, 115), (32768, 45), (24576, 98), (16384, 100), (8192, 99), (4096, 112)]) (bif b0 then 100 else 45) &&
  (Nat.beq (pickM 1 m [(256, 114)]) (bif b1 then 114 else 45) && (Nat.beq (pickM 2 m [(128, 119)]) (bif b2 then 119 else 45) && (Nat.beq (pickM 3 m [(2112, 115), (2048, 83), (64, 120)]) (bif b3 then 120 else 45) &&
  (Nat.beq (pickM 4 m [(32, 114)]) (bif b4 then 114 else 45) && (Nat.beq (pickM 5 m [(16, 119)]) (bif b5 then 119 else 45) && (Nat.beq (pickM 6 m [(1032, 115), (1024, 83), (8, 120)]) (bif b6 then 120 else 45) &&
  (Nat.beq (pickM 7 m [(4, 114)]) (bif b7 then 114 else 45) && (Nat.beq (pickM 8 m [(2, 119)]) (bif b8 then 119 else 45) && Nat.beq (pickM 9 m [(513, 116), (512, 84), (1, 120)]) (bif b9 then 120 else 45)))))))))
noncomputable def bB (f : Bool → Bool) : Bool := f false && f true
theorem bB_all {f : Bool → Bool} (h : bB f = true) : ∀ b, f b = true := fun b => by
  unfold bB at h
  rw [Bool.and_eq_true] at h
  cases b
  · exact h.1
  · exact h.2
theorem allM : (bB fun b0 => bB fun b1 => bB fun b2 => bB fun b3 => bB fun b4 => bB fun b5 => bB fun b6 => bB fun b7 => bB fun b8 => bB fun b9 => rowM b0 b1 b2 b3 b4 b5 b6 b7 b8 b9 (mdN b0 b1 b2 b3 b4 b5 b6 b7 b8 b9)) = true := by decide +kernel
theorem chr_bif (b : Bool) (n : Nat) : (bif b then n else 45) = if some b = some true then n else 45 := by cases b <;> rfl
/-- what filemode writes of a listing's rights are its signs -/
theorem listing (bs : List Bool) (h : bs.length = 10) : fmS ((if bs[0]? = some true then 16384 else 32768) + (bs01 bs 9).sum) = sgS bs 10 := by
  rw [fmS_N, sgS_chr, show ((List.range 10).map fun k => chr k bs) = ((List.range 10).map fun k => chrN k bs).map fun c => (⟨#[c]⟩ : Str) by rw [List.map_map]; rfl]
  congr 1
  match bs, h with
  | [b0, b1, b2, b3, b4, b5, b6, b7, b8, b9], _ =>
    have es : (if [b0, b1, b2, b3, b4, b5, b6, b7, b8, b9][0]? = some true then 16384 else 32768) + (bs01 [b0, b1, b2, b3, b4, b5, b6, b7, b8, b9] 9).sum = ((mdN b0 b1 b2 b3 b4 b5 b6 b7 b8 b9 : Nat) : Int) := by
      unfold bs01
      rw [sum_filter]
      show (if some b0 = some true then (16384 : Int) else 32768) + ((if (some b1 == some true) = true then (2 : Int) ^ 8 else 0) + ((if (some b2 == some true) = true then (2 : Int) ^ 7 else 0) + ((if (some b3 == some true) = true then (2 : Int) ^ 6 else 0) + ((if (some b4 == some true) = true then (2 : Int) ^ 5 else 0) + ((if (some b5 == some true) = true then (2 : Int) ^ 4 else 0) + ((if (some b6 == some true) = true then (2 : Int) ^ 3 else 0) + ((if (some b7 == some true) = true then (2 : Int) ^ 2 else 0) + ((if (some b8 == some true) = true then (2 : Int) ^ 1 else 0) + ((if (some b9 == some true) = true then (2 : Int) ^ 0 else 0) + 0))))))))) = _
      rw [el b1 8 256 rfl, el b2 7 128 rfl, el b3 6 64 rfl, el b4 5 32 rfl, el b5 4 16 rfl, el b6 3 8 rfl, el b7 2 4 rfl, el b8 1 2 rfl, el b9 0 1 rfl]
      unfold mdN
      simp only [Int.natCast_add]
      cases b0 <;> rfl
    rw [es, fmN_M]
    have R := bB_all (bB_all (bB_all (bB_all (bB_all (bB_all (bB_all (bB_all (bB_all (bB_all allM b0) b1) b2) b3) b4) b5) b6) b7) b8) b9
    unfold rowM at R
    simp only [Bool.and_eq_true] at R
    obtain ⟨r0, r1, r2, r3, r4, r5, r6, r7, r8, r9⟩ := R
    replace r0 := Nat.eq_of_beq_eq_true r0
    replace r1 := Nat.eq_of_beq_eq_true r1
    replace r2 := Nat.eq_of_beq_eq_true r2
    replace r3 := Nat.eq_of_beq_eq_true r3
    replace r4 := Nat.eq_of_beq_eq_true r4
    replace r5 := Nat.eq_of_beq_eq_true r5
    replace r6 := Nat.eq_of_beq_eq_true r6
    replace r7 := Nat.eq_of_beq_eq_true r7
    replace r8 := Nat.eq_of_beq_eq_true r8
    replace r9 := Nat.eq_of_beq_eq_true r9
    generalize mdN b0 b1 b2 b3 b4 b5 b6 b7 b8 b9 = m at r0 r1 r2 r3 r4 r5 r6 r7 r8 r9 ⊢
    show [pickN 0 m (List.map _ _), pickN 1 m (List.map _ _), pickN 2 m (List.map _ _), pickN 3 m (List.map _ _), pickN 4 m (List.map _ _), pickN 5 m (List.map _ _), pickN 6 m (List.map _ _), pickN 7 m (List.map _ _), pickN 8 m (List.map _ _), pickN 9 m (List.map _ _)] = _
    rw [pickM_of, pickM_of, pickM_of, pickM_of, pickM_of, pickM_of, pickM_of, pickM_of, pickM_of, pickM_of, r0, r1, r2, r3, r4, r5, r6, r7, r8, r9]
    simp only [chr_bif]
    rfl
/-- a sorted list of two kinds of strs -/
theorem two_kinds {x y : Str} (hxy : ltCps x.cps.toList y.cps.toList = true) : ∀ {l : List Str}, sortedS l = true → (∀ s ∈ l, s = x ∨ s = y) → ∃ i j, l = List.replicate i x ++ List.replicate j y
  | [], _, _ => ⟨0, 0, rfl⟩
  | [a], _, h => by
    rcases h a (.head _) with rfl | rfl
    · exact ⟨1, 0, rfl⟩
    · exact ⟨0, 1, rfl⟩
  | a :: b :: l, hs, h => by
    have hs' : (!ltCps b.cps.toList a.cps.toList && risingS b l) = true := hs
    rw [Bool.and_eq_true] at hs'
    obtain ⟨i, j, e⟩ := two_kinds hxy (l := b :: l) hs'.2 fun s hm => h s (.tail _ hm)
    rcases h a (.head _) with rfl | rfl
    · exact ⟨i + 1, j, by rw [e]; rfl⟩
    · cases i with
        | zero => exact ⟨0, j + 1, by rw [e]; rfl⟩
        | succ i =>
          have : b = x := by
            have := congrArg (·[0]?) e
            simpa [List.replicate_succ] using this
          rw [this, hxy] at hs'
          exact absurd hs'.1 (by decide)
theorem at_rep {x y : Str} {i j k : Nat} {c : Str} (h : (List.replicate i x ++ List.replicate j y)[k]? = some c) : c = if k < i then x else y := by
  by_cases q : k < i
  · rw [List.getElem?_append_left (by rw [List.length_replicate]; exact q), List.getElem?_replicate, if_pos q] at h
    rw [if_pos q]; exact (Option.some.inj h).symm
  · rw [List.getElem?_append_right (by rw [List.length_replicate]; exact Mine.q254 q), List.getElem?_replicate] at h
    rw [if_neg q]
    split at h
    · exact (Option.some.inj h).symm
    · cases h
/-- the middle of a column -/
theorem middle {k m : Nat} (hk : k < 10) {rows : List (List Bool)} {ss' : List Str} {c : Str} {b : Bool} (hp : ss'.Perm (rows.map (chr k))) (hs : sortedS ss' = true) (hc : ss'[m]? = some c) (hb : b = true ↔ rows.length ≤ m + gCnt rows k) (kd : Int) (hg : (gateF kd rows)[k]? = some b) : c = chr k (gateF kd rows) := by
  have lt : ltCps (Str.ofString "-").cps.toList (⟨#[(sgn.cps[k]?).getD 0]⟩ : Str).cps.toList = true := by
    have : ∀ k, k < 10 → ltCps (Str.ofString "-").cps.toList (⟨#[(sgn.cps[k]?).getD 0]⟩ : Str).cps.toList = true := by decide +kernel
    exact this k hk
  have ne : Str.ofString "-" ≠ (⟨#[(sgn.cps[k]?).getD 0]⟩ : Str) := by
    have : ∀ k, k < 10 → Str.ofString "-" ≠ (⟨#[(sgn.cps[k]?).getD 0]⟩ : Str) := by decide +kernel
    exact this k hk
  have e : ∀ r : List Bool, chr k r = if r[k]? = some true then (⟨#[(sgn.cps[k]?).getD 0]⟩ : Str) else Str.ofString "-" := fun r => by
    unfold chr chrN
    split <;> rfl
  obtain ⟨i, j, rfl⟩ := two_kinds lt hs fun s hm => by
    obtain ⟨r, _, rfl⟩ := List.mem_map.mp (hp.mem_iff.mp hm)
    rw [e]; split
    · exact .inr rfl
    · exact .inl rfl
  have hl := hp.length_eq
  rw [List.length_append, List.length_replicate, List.length_replicate, List.length_map] at hl
  have hj : j = gCnt rows k := by
    have := hp.countP_eq (fun s => decide (s = (⟨#[(sgn.cps[k]?).getD 0]⟩ : Str)))
    rw [List.countP_append, List.countP_map] at this
    have h1 : (List.replicate i (Str.ofString "-")).countP (fun s => decide (s = (⟨#[(sgn.cps[k]?).getD 0]⟩ : Str))) = 0 := by
      rw [List.countP_eq_zero]
      intro a ha
      rw [(List.mem_replicate.mp ha).2]
      simpa using ne
    have h2 : (List.replicate j (⟨#[(sgn.cps[k]?).getD 0]⟩ : Str)).countP (fun s => decide (s = (⟨#[(sgn.cps[k]?).getD 0]⟩ : Str))) = j := by
      rw [List.countP_eq_length.mpr fun a ha => by rw [(List.mem_replicate.mp ha).2]; exact decide_eq_true rfl, List.length_replicate]
    rw [h1, h2, Nat.zero_add] at this
    rw [this]
    unfold gCnt
    refine List.countP_congr fun r _ => ?_
    show decide (chr k r = _) = true ↔ (r[k]? == some true) = true
    rw [decide_eq_true_eq, beq_iff_eq, e]
    by_cases q : r[k]? = some true
    · rw [if_pos q]; exact ⟨fun _ => q, fun _ => rfl⟩
    · rw [if_neg q]; exact ⟨fun z => absurd z ne, fun z => absurd z q⟩
  rw [at_rep hc, e, hg]
  cases b with
  | true => rw [if_neg (by have := hb.mp rfl; exact Mine.q255 hl hj this)]; rfl
  | false => rw [if_pos (by have : ¬ rows.length ≤ m + gCnt rows k := fun z => absurd (hb.mpr z) (by decide); exact Mine.q256 hl hj this)]; rfl
theorem gate_at (kd : Int) (rows : List (List Bool)) {k : Nat} (hk : k < 10) : (gateF kd rows)[k]? = some (decide ((2 * gCnt rows k : Int) > rows.length) || (decide (kd = 3) && decide ((2 * gCnt rows k : Int) = rows.length))) := by
  unfold gateF
  rw [List.getElem?_map, List.getElem?_range hk]; rfl
theorem midHigh {k : Nat} (hk : k < 10) {rows : List (List Bool)} {ss' : List Str} {c : Str} (hp : ss'.Perm (rows.map (chr k))) (hs : sortedS ss' = true) (hc : ss'[(rows.map (chr k)).length / 2]? = some c) : c = chr k (gateF 3 rows) := by
  refine middle hk hp hs hc ?_ 3 (gate_at 3 rows hk)
  rw [List.length_map]
  simp only [Bool.or_eq_true, Bool.and_eq_true, decide_eq_true_eq]
  rw [true_and]
  constructor <;> intro h <;> (first | exact Mine.q257 h | exact Mine.q258 h | omega)
theorem midLow {k : Nat} (hk : k < 10) {rows : List (List Bool)} {ss' : List Str} {c : Str} (h1 : 0 < rows.length) (hp : ss'.Perm (rows.map (chr k))) (hs : sortedS ss' = true) (hc : ss'[((rows.map (chr k)).length - 1) / 2]? = some c) : c = chr k (gateF 2 rows) := by
  refine middle hk hp hs hc ?_ 2 (gate_at 2 rows hk)
  rw [List.length_map]
  simp only [Bool.or_eq_true, Bool.and_eq_true, decide_eq_true_eq]
  exact Mine.q259 h1
end Mine
end
section
open PySem PySem.W PyProof.Rows PySem.Calls PySem.Spec
set_option maxRecDepth 100000
namespace Mine
/-! the statements of the run, by their places in the text: each is read off by unification -/
noncomputable abbrev rBody : List Stmt := by
  refine (?f : (n : Str) → (g : Arguments) → (l : List Stmt) → (u : List PySem.Expr) → (r : Option PySem.Expr) → (t : List TypeParam) → (x : Scope) → (y : Option Scope) → (z : Str) → (p : Pos) → (PySem.Challenge.pw_oc0253_01).main.body[38]? = some (.FunctionDef n g l u r t x y z p) → List Stmt) _ _ _ _ _ _ _ _ _ _ rfl
  exact fun n g l u r t x y z p _ => l
noncomputable abbrev rScope : Scope := by
  refine (?f : (n : Str) → (g : Arguments) → (l : List Stmt) → (u : List PySem.Expr) → (r : Option PySem.Expr) → (t : List TypeParam) → (x : Scope) → (y : Option Scope) → (z : Str) → (p : Pos) → (PySem.Challenge.pw_oc0253_01).main.body[38]? = some (.FunctionDef n g l u r t x y z p) → Scope) _ _ _ _ _ _ _ _ _ _ rfl
  exact fun n g l u r t x y z p _ => x
noncomputable abbrev rEnv (L : Addr) : Env := envOfC (Str.ofString "_law_run") rScope L 235 (.ref 234)
noncomputable abbrev rLoop : List Stmt := by
  refine (?f : (a : Stmt) → (b : Stmt) → (c : Stmt) → (x : PySem.Expr) → (l : List Stmt) → (p : Pos) → (d : Stmt) → rBody = [a, b, c, .While x l [] p, d] → List Stmt) _ _ _ _ _ _ _ rfl
  exact fun a b c x l p d _ => l
noncomputable abbrev rTurn : List Stmt := by
  refine (?f : (a : Stmt) → (x : PySem.Expr) → (y : PySem.Expr) → (l : List Stmt) → (p : Pos) → (b : Stmt) → (c : Stmt) → rLoop = [a, .For x y l [] p, b, c] → List Stmt) _ _ _ _ _ _ _ rfl
  exact fun a x y l p b c _ => l
noncomputable abbrev rWhile : List Stmt := by
  refine (?f : (a : Stmt) → (x : PySem.Expr) → (y : PySem.Expr) → (l : List Stmt) → (p : Pos) → (b : Stmt) → (c : Stmt) → rLoop = [a, .For x y l [] p, b, c] → List Stmt) _ _ _ _ _ _ _ rfl
  exact fun a x y l p b c _ => [a, .For x y rTurn [] p, b, c]
noncomputable abbrev rAdd : List Stmt := by
  refine (?f : (a : Stmt) → (x : PySem.Expr) → (y : PySem.Expr) → (l : List Stmt) → (p : Pos) → (b : Stmt) → (c : Stmt) → (d : Stmt) → rBody = [a, .For x y l [] p, b, c, d] → List Stmt) _ _ _ _ _ _ _ _ rfl
  exact fun a x y l p b c d _ => l
noncomputable abbrev rS1 : Stmt := by
  refine (?f : (a : Stmt) → (x : PySem.Expr) → (y : PySem.Expr) → (l : List Stmt) → (p : Pos) → (b : Stmt) → (c : Stmt) → (d : Stmt) → rBody = [a, .For x y l [] p, b, c, d] → Stmt) _ _ _ _ _ _ _ _ rfl
  exact fun a x y l p b c d _ => .For x y rAdd [] p
noncomputable abbrev rS2 : Stmt := by
  refine (?f : (a : Stmt) → (b : Stmt) → (c : Stmt) → (d : Stmt) → (e : Stmt) → rBody = [a, b, c, d, e] → Stmt) _ _ _ _ _ rfl
  exact fun a b c d e _ => c
noncomputable abbrev rS3 : Stmt := by
  refine (?f : (a : Stmt) → (b : Stmt) → (c : Stmt) → (x : PySem.Expr) → (l : List Stmt) → (p : Pos) → (d : Stmt) → rBody = [a, b, c, .While x l [] p, d] → Stmt) _ _ _ _ _ _ _ rfl
  exact fun a b c x l p d _ => .While x rWhile [] p
noncomputable abbrev rS4 : Stmt := by
  refine (?f : (a : Stmt) → (b : Stmt) → (c : Stmt) → (d : Stmt) → (e : Stmt) → rBody = [a, b, c, d, e] → Stmt) _ _ _ _ _ rfl
  exact fun a b c d e _ => e
end Mine
end
section
open PySem PySem.W PyProof.Rows PySem.Calls PySem.Spec
set_option Elab.async false
set_option maxRecDepth 100000
set_option maxHeartbeats 4000000
namespace Mine
theorem fillKT : (PySem.Challenge.rw_oc0253_01, Mine.hd.heap_1) = (PySem.Challenge.rw_oc0253_01, Mine.hd.heap_1) := by k_fill; rfl
theorem storeC {M : Model} {A : Around} {E : Value → Shared → Prop} {s : Shared} {env : Env} {h₀ : Heap} {L : Addr} {m : Str → Option Value} {x : Str} {v : Value} {news : List (Addr × Obj)} {g : Obj → List (Addr × Obj)} {c : Addr} {o : Obj} {v₀ : Option Value} {Q : Unit → Shared → Prop} (F : Fr h₀ L s.heap m) (N : News h₀ L s.heap news) (hk : env.scope.kind = .function) (hx : env.kindOf x = some .cell) (hc : env.cells.lookup x = some c) (U : UpdF c o news g) (hd : o.data = .cell v₀)
    (h : ∀ h' o', Fr h₀ L h' m → News h₀ L h' (g o') → o'.data = .cell (some v) → Q () { s with heap := h' }) : wpAny M A (storeName env x v) Q E s := by
  obtain ⟨own, rest, rfl, hg, h1, h2⟩ := U.split
  have hm := N (c, o) (List.mem_append_right _ (.head _))
  refine wpAny_storeName_cell hk hx hc ⟨o, hm.1, hd⟩ fun h' hv hs => ?_
  obtain ⟨o', ho', hd'⟩ := hv
  exact h h' o' (F.change hs hm.2.1 hm.2.2) (hg o' ▸ N.setIn h1 h2 hs ho') hd'
theorem zipStar {prog : Program} {w : World} {A : Around} {E : Value → Shared → Prop} {s : Shared} {env : Env} {pos p : Pos} {e : PySem.Expr} {Q : Value → Shared → Prop}
    (h : wpAny (model prog w) A (eval e env) (fun v s₁ => StarOf (model prog w) A E v (fun vs s₂ => wpAny (model prog w) A (call (.type "zip") vs) Q E s₂) s₁) E s) :
    wpAny (model prog w) A (callWith pos (.type "zip") [] (backTo pos (starEach [.Starred e p] env)) []) Q E s := by
  rw [show starEach [.Starred e p] env = [(true, eval e env)] from rfl]
  refine ks_call (P := fun _ => True) rfl (fun _ _ => ⟨.machine, .inr (.inl rfl), Looks.of_pure rfl⟩) (ks_lone (wpAny_mono h (fun v s₁ h₁ => ?_) fun _ _ e => e))
  unfold StarOf at h₁ ⊢
  exact wpAny_mono h₁ (fun b s₂ h₂ => ⟨h₂.1, wpAny_mono h₂.2 (fun vs s₃ h₃ => ⟨trivial, h₃⟩) fun _ _ e => e⟩) fun _ _ e => e
noncomputable abbrev sg (bs : List Bool) : Str := Txt.join "" (sgS bs 10)
/-- the iterators over signs -/
theorem made_sg {h0 : Heap} : ∀ {ys : List Value} {rows : List (List Bool)} (b : Nat), StrsAre ys (rows.map sg) → ∃ qs, Made h0 10 b ys qs ∧ (rows ≠ [] → qs ≠ []) ∧ (∀ q ∈ qs, ∀ a ∈ q.fp, b ≤ a) ∧ ∀ k vs, k < 10 → F2 k qs vs → StrsAre vs (rows.map (chr k))
  | _, [], b, .nil => ⟨[], .nil b, fun h => absurd rfl h, fun _ h => absurd h List.not_mem_nil, fun k vs _ f => by cases f; exact .nil⟩
  | _, r :: rows, b, .cons _ t h => by
    obtain ⟨qs, M, _, lo, f⟩ := made_sg (b + 1) h
    refine ⟨_, .str (sig_ascii r) (sig_size r) M, fun _ => List.cons_ne_nil _ _, fun q hq a ha => ?_, fun k vs hk g => ?_⟩
    · rcases List.mem_cons.mp hq with rfl | hq
      · rw [List.mem_singleton.mp ha]; exact Nat.le_refl _
      · exact Nat.le_of_succ_le (lo q hq a ha)
    · cases g with
      | cons a g =>
        obtain ⟨c, u, e, rfl⟩ := a
        rw [sig_at r k hk] at e
        obtain rfl := Option.some.inj e
        exact .cons _ _ (f k _ hk g)
/-- the same, where there may be none -/
theorem made_sg0 {h0 : Heap} {ys : List Value} {rows : List (List Bool)} (b : Nat) (h : StrsAre ys (rows.map sg)) : ∃ n qs, Made h0 n b ys qs ∧ (qs = [] → n = 0) ∧ ((n = 0 ∧ rows = []) ∨ (n = 10 ∧ rows ≠ [])) ∧ (∀ q ∈ qs, ∀ a ∈ q.fp, b ≤ a) ∧ ∀ k vs, k < n → F2 k qs vs → StrsAre vs (rows.map (chr k)) := by
  by_cases c : rows = []
  · subst c
    cases h
    exact ⟨0, [], .nil b, fun _ => rfl, .inl ⟨rfl, rfl⟩, fun _ h => absurd h List.not_mem_nil, fun k _ h => absurd h (Nat.not_lt_zero k)⟩
  · obtain ⟨qs, M, ne, lo, f⟩ := made_sg (h0 := h0) b h
    exact ⟨10, qs, M, fun e => absurd e (ne c), .inr ⟨rfl, c⟩, lo, f⟩
theorem Gd.hide {w : World} {n₀ : Nat} {h : Heap} (G : Gd w n₀ h) {W : List Addr} (hW : ∀ a ∈ W, n₀ ≤ a) : Gd w n₀ (hideAll h W) :=
  let ⟨g, q, k⟩ := G
  ⟨g, q, fun b o e => hideAll_get _ (k b o e) fun m => absurd (Heap.lt_size e) (Nat.not_lt.mpr (Nat.le_trans q.size (hW _ m)))⟩
/-- the run's signs, as they lie -/
noncomputable def SgSt (prog : Program) (w : World) (h : Heap) (d : Addr) (K : List Int) (v : Int → List Bool) : Prop :=
  ∃ o kvs, h.get? d = some o ∧ o.IsDictOf (intKind prog w) kvs ∧ kvs.map (·.1) = K ∧ ∀ p x, (p, x) ∈ kvs → ∃ t, x = Value.str (Txt.join "" (sgS (v p) 10)) t
theorem turnC {prog : Program} {w : World} {n₀ : Nat} {A : Around} {s : Shared} {PT : Flow → Shared → Prop} {PE : Value → Shared → Prop} (G : Gd w n₀ s.heap) (r : Rm A 12 100) {L aN d : Addr} {nd : List Nd} {m : Str → Option Value} (hn : s.heap.Ns L m) (bL : n₀ ≤ L) (nDL : d ≠ L) (H : NodesAt s.heap aN nd) {p : Int} {tp : Tok}
    (em1 : m (Str.ofString "nodes") = some (.ref aN)) (em2 : m (Str.ofString "place") = some (.int p tp)) {oSg oKd : Obj} (cSg : s.heap.get? (L + 1) = some oSg) (hSg : oSg.data = .cell (some (.ref d))) (cKd : s.heap.get? (L + 1 + 1) = some oKd) {vK : Option Value} (hKd : oKd.data = .cell vK) {K : List Int} {v : Int → List Bool} (S : SgSt prog w s.heap d K v)
    (bd : n₀ ≤ d) (sm : (d == sysModules) = false) (hp : p ∈ upTo nd.length) (pK : p ∉ K) (pT : ∀ x ∈ tkF nd p, x ∈ K) (len : ∀ x ∈ K, (v x).length = 10) (hz : K.length ≤ 1000)
    (ret : ∀ h' tk m', h'.Ns L m' → (∀ y, y ≠ Str.ofString "taken" → y ≠ Str.ofString "rights" → y ≠ Str.ofString "columns" → y ≠ Str.ofString "told" → m' y = m y) → KpB [L, L + 1 + 1, d] s.heap h' → (∃ v, h'.IsCell (L + 1 + 1) v) →
      SgSt prog w h' d (K ++ [p]) (upd v p (if kdF nd p > 1 then gateF (kdF nd p) ((tkF nd p).map v) else bsF nd p)) → PT .next { s with heap := h', toks := tk }) :
    wpAny (model prog w) A (execs rTurn (rEnv L)) PT PE s := by
  obtain ⟨oD, kvs, gD, hiD, ekv, hkv⟩ := S
  have nD1 := neN (dict_ne_cell gD hiD cSg hSg)
  have nD2 := neN (dict_ne_cell gD hiD cKd hKd)
  obtain ⟨q, hq, hqm, ekd, etk, ebs⟩ := nd_at hp
  have hpn := mem_ints.mp hp
  obtain ⟨nn, gNd⟩ := H.ls
  obtain ⟨⟨tq, nq, gq⟩, ⟨vq, nT, gT, hT⟩, nR, gR⟩ := H.lie q hqm
  have okq := H.ok q hqm
  have hl13 := H.len
  have eN : (nd.map fun q => Value.ref q.a).toArray.size = nd.length := by rw [List.size_toArray, List.length_map]
  have em := (named em1).trans (congrArg (fun f : Str → Option Value => fun y => if y = Str.ofString "nodes" then some (.ref aN) else f y) (named em2))
  have hn0 := hn
  rw [em] at hn0
  refine rebaseFK [(d, oD), (L + 1, oSg), (L + 1 + 1, oKd)] G (Kp.refl _) hn0 bL (al3 ⟨gD, nDL, .inl bd⟩ ⟨cSg, Nat.ne_of_gt (Nat.lt_succ_self L), .inl (Nat.le_succ_of_le bL)⟩ ⟨cKd, Nat.ne_of_gt (Nat.lt_succ_of_lt (Nat.lt_succ_self L)), .inl (Nat.le_succ_of_le (Nat.le_succ_of_le bL))⟩) fun h₀9 tail9 F9 N9 off9 lt9 X9 mean9 mg9 mb9 T9 hid9 bk9 => ?_
  simp only [List.cons_append, List.nil_append] at N9 F9
  have TR9 := topRead_of T9
  w_on
  w_strict (
  k_steps
  refine item_at (IsL.isList gNd) p.toNat (by exact Mine.q241 hpn.1) (by rw [eN]; exact Mine.q238 hl13.2) (by rw [List.getElem?_map, hq]; rfl) ?_
  dsimp only
  k_steps
  (rename Fr _ _ _ _ => F9); (rename News _ _ _ _ => N9)
  refine kun_list F9 N9 (IsL.isList gq) r.hh rfl rfl ?_
  clear F9 N9
  intro h7 F9 N9
  k_steps
  have tl1 : ∀ x ∈ tail9, x.1 ≠ L + 1 + 1 := fun x hx e => off9 x hx (e ▸ .tail _ (.tail _ (.head _)))
  have tl2 : ∀ x ∈ tail9, x.1 ≠ d := fun x hx e => off9 x hx (e ▸ .head _)
  refine' storeC F9 N9 rfl rfl rfl ?U hKd ?_
  (case U => k_updF)
  clear F9 N9
  intro h8 oK2 F9 N9 hK2
  (try dsimp only at N9)
  k_steps
  (rename Fr _ _ _ _ => F9); (rename News _ _ _ _ => N9)
  rename_i h8
  have kb8 := (bk9 _ _ _ F9 N9 fun q hq => tl (tl (tl hq))).less (W' := [L, L + 1 + 1]) (al4 (.inl (.head _)) (.inr ⟨_, gD, N9.get (.head _)⟩) (.inr ⟨_, cSg, N9.get (tl (.head _))⟩) (.inl (tl (.head _))))
  have kl8 : ∀ a xs n, s.heap.get? a = some (W.listOf xs n) → h8.get? a = some (W.listOf xs n) := fun a xs n g => kb8 _ _ (nin2 (fun z => ns_noList hn _ _ (z ▸ g)) (fun z => by rw [z, cKd] at g; cases g; cases hKd)) g
  have G8 : Gd w n₀ h8 := G.keepB kb8 (al2 bL (Nat.le_succ_of_le (Nat.le_succ_of_le bL)))
  have gT8 := kl8 _ _ _ gT
  have gR8 := kl8 _ _ _ gR
  have zL8 := ltN F9.ns.lt
  have gD8 := N9.get (.head _)
  have cS8 := N9.get (tl (.head _))
  have cK8 := N9.get (tl (tl (.head _)))
  have lD8 := ltN (Heap.lt_size gD8)
  refine zipStar ?_
  refine compV (hb := h8) (cl := [(Str.ofString "signs", L + 1)]) (by with_unfolding_all rfl) rfl (by decide) ?_
  k_steps
  refine wpAny_pyIter_list (IsL.isList gT8) ?_
  have kpI : Kp h8 (h8.push (liObj q.T)) := fun b o e => Heap.get?_push_of_some _ e
  have zaT := Heap.lt_size gT8
  have zI : h8.objs.size < (h8.push (liObj q.T)).objs.size := by rw [Heap.size_push]; exact Nat.lt_succ_self _
  have hlT := hT.length
  have lT : q.ts.length ≤ 4 := by
    by_cases c : q.kd < 2
    · rw [(okq.small c).2]; exact Nat.zero_le _
    · exact (okq.big (by exact Mine.q239 c)).2
  rw [Array.length_toList] at hlT
  refine CompIs.mk h8.objs.size [h8.objs.size, q.T] [h8.objs.size] vq.size _ _ (fun _ _ i zs _ => StrsAre zs ((q.ts.take i).map fun x => sg (v x))) (Nx.name (Walks.list (A := A) r.hh _ _ (Nat.ne_of_lt zaT) vq) _ _) (by rw [sizeLine_eq]; exact Mine.q240 hlT lT) ⟨⟨_, Heap.get?_push_size _ rfl, rfl, rfl⟩, IsL.isList (kpI _ _ gT8)⟩ (al2 zI (Nat.lt_trans zaT zI)) kpI (Nat.le_of_lt zI) (List.forall_mem_singleton.mpr (Heap.get?_none_of_le (Nat.le_refl _))) (fun _ _ _ _ => .nil) (fun _ _ _ _ _ _ q _ => q) ?_ ?_
  · rintro PT3 PE3 D3 C3 i v3 zs m3 h9 tk9 hC3 hV3 hcl3 gD3 hPT3 hi hv3 hR3 hzs hk3 hn3
    obtain ⟨f, tf, rfl, hf⟩ := ints_at (i := i) hT ((Array.getElem?_toList ..).trans hv3)
    refine asgL rfl rfl rfl hn3 fun h10 tk10 hn10 kb10 => ?_
    replace hn10 : h10.Ns C3 _ := hn10
    have zC3 : (h8.objs.size : Nat) ≤ C3 := Nat.le_trans (Nat.le_of_lt zI) hC3
    have nC3 : ∀ b o, h8.get? b = some o → (b : Nat) ≠ C3 := fun b o e => Nat.ne_of_lt (Nat.lt_of_lt_of_le (Heap.lt_size e) zC3)
    have K10 : Kp h8 h10 := fun b o e => kb10 b o (nin1 (nC3 b o e)) (hk3 b o e)
    refine rebaseFK [(d, oD), (L + 1, oSg)] G8 K10 hn10 (Nat.le_trans (Nat.le_trans bL (Nat.le_of_lt zL8)) zC3) (al2 ⟨K10 _ _ gD8, nC3 _ _ gD8, .inl bd⟩ ⟨K10 _ _ cS8, nC3 _ _ cS8, .inl (Nat.le_succ_of_le bL)⟩) fun h₀6 tail6 F6 N6 off6 lt6 X6 mean6 mg6 mb6 T6 hid6 bk6 => ?_
    simp only [List.cons_append, List.nil_append] at N6 F6
    have TR6 := topRead_of T6
    clear F9 N9 X9 T9 TR9
    refine test0 ?_
    dsimp only
    k_steps
    (rename Fr _ _ _ _ => F6); (rename News _ _ _ _ => N6)
    have hfk : f ∈ K := pT f (etk ▸ List.mem_of_getElem? hf)
    obtain ⟨x, hx⟩ : ∃ x, valueAt kvs f = some x := Option.isSome_iff_exists.mp (valueAt_mem.mpr (ekv ▸ hfk))
    obtain ⟨tx, rfl⟩ := hkv f x (valueAt_some hx)
    refine kd_tail N6 (.head _) hiD hx ?_
    refine hPT3 _ _ _ _ (kbCV kb10) hn10 (clsNil rfl) ?_ (by rw [List.length_append]; exact Nat.succ_le_succ hzs)
    rw [List.take_add_one, hf, List.map_append]
    exact StrsAre.append hR3 (.cons _ _ .nil)
  · rintro D3 C3 zs h9 tk9 n9 hk3 hD3 zD3 gD3 hR3 hzs hDC3 zC3 hCn3 h10 sb10
    rw [List.take_of_length_le (by rw [hlT]; exact Nat.le_refl _)] at hR3
    have K10 : Kp h8 h10 := fun b o e => sb10.extBut b o (Nat.ne_of_lt (Nat.lt_of_lt_of_le (Heap.lt_size e) zC3)) (hk3 b o e)
    obtain ⟨F11, N11⟩ := led_new F9 N9 K10 zD3 (sb10.extBut _ _ hDC3 gD3)
    clear F9 N9
    have hzl : zs.length ≤ 4 := by exact Mine.q260 hlT lT hzs
    refine star_seq F11 N11 (.head _) rfl rfl (.inl rfl) rfl (Nat.le_trans (show zs.toArray.size ≤ 4 by rw [List.size_toArray]; exact hzl) (Nat.le_of_ble_eq_true rfl)) ?_
    clear F11 N11
    intro h11 F11 N11
    dsimp only
    obtain ⟨n, qs, M, hn0', hn10', lo11, f2⟩ := made_sg0 (h0 := h11) (rows := q.ts.map v) h11.objs.size (by rw [List.map_map]; exact hR3)
    refine callZip hzl M.as fun h13 Z => ?_
    obtain ⟨ok, st, lt⟩ := Z.ok (prog := prog) (w := w) hzl M
    have F13 := F11.keeps Z.kp
    have N13 := N11.grown Z.kp
    have zL11 := ltN F11.ns.lt
    have kb11 := (bk9 _ _ _ F11 N11 fun q hq => tl (tl (tl (tl hq)))).less (W' := [L, L + 1 + 1]) (al4 (.inl (.head _)) (.inr ⟨_, gD, N11.get (tl (.head _))⟩) (.inr ⟨_, cSg, N11.get (tl (tl (.head _)))⟩) (.inl (tl (.head _))))
    have s11 : ∀ b o, s.heap.get? b = some o → b < h11.objs.size := fun b o e => by
      by_cases c : b ∈ [L, L + 1 + 1]
      · rcases List.mem_cons.mp c with rfl | c
        · exact zL11
        · rw [List.mem_singleton.mp c]
          exact Heap.lt_size (N11.get (tl (tl (tl (.head _)))))
      · exact Heap.lt_size (kb11 b o c e)
    have hn13 := F13.ns
    have kb13 := kb11.trans Z.kp.b
    have gD13 := N13.get (tl (.head _))
    have cS13 := N13.get (tl (tl (.head _)))
    have cK13 := N13.get (tl (tl (tl (.head _))))
    clear F11 N11 F13 N13 X9 T9 TR9
    have lo : ∀ b ∈ zFp (h11.objs.size + zs.length + 2 : Nat) (h11.objs.size + zs.length : Nat) (h11.objs.size + zs.length + 1 : Nat) qs, h11.objs.size ≤ b := fun b hb => by
      rcases List.mem_cons.mp hb with rfl | hb
      · exact Nat.le_trans (Nat.le_add_right _ _) (Nat.le_add_right _ _)
      · rcases List.mem_cons.mp hb with rfl | hb
        · exact Nat.le_add_right _ _
        · rcases List.mem_cons.mp hb with rfl | hb
          · exact Nat.le_trans (Nat.le_add_right _ _) (Nat.le_add_right _ _)
          · obtain ⟨l, hl', hb⟩ := List.mem_flatten.mp hb
            obtain ⟨q', hq', rfl⟩ := List.mem_map.mp hl'
            exact lo11 q' hq' b hb
    generalize (h11.objs.size + zs.length + 2 : Nat) = z at *
    generalize (h11.objs.size + zs.length + 1 : Nat) = z1 at *
    generalize (h11.objs.size + zs.length : Nat) = z0 at *
    clear Z M lo11
    have oA := ok A r.hh
    have nW : ∀ b : Nat, b < h11.objs.size → b ∉ zW z z1 qs := fun b e m => absurd e (Nat.not_lt.mpr (lo b (zSub oA b m)))
    refine wpAny_storeName_local rfl hn13 (fun h14 hn14 sb14 => ?_) rfl
    replace hn14 : h14.Ns L _ := hn14
    have kb14 : KpB [L] h13 h14 := fun b o hb e => sb14.extBut b o (fun z => hb (z ▸ .head _)) e
    have kbA : KpB [L, L + 1 + 1] s.heap h14 := kb13.trans (kb14.more (List.forall_mem_singleton.mpr (.head _)))
    have st14 := st.frame oA (fun b hb o e => kb14 b o (nin1 (Nat.ne_of_gt (Nat.lt_of_lt_of_le zL11 (lo b hb)))) e)
    have gD14 := kb14 _ _ (nin1 nDL) gD13
    have cS14 := kb14 _ _ (nin1 (Nat.ne_of_gt (Nat.lt_succ_self L))) cS13
    have cK14 := kb14 _ _ (nin1 (Nat.ne_of_gt (Nat.lt_succ_of_lt (Nat.lt_succ_self L)))) cK13
    have bW : ∀ a ∈ zW z z1 qs, n₀ ≤ a := fun a ha => Nat.le_trans (Nat.le_trans bL (Nat.le_of_lt zL11)) (lo a (zSub oA a ha))
    have GB := (G.keepB kbA (al2 bL (Nat.le_succ_of_le (Nat.le_succ_of_le bL)))).hide bW
    have hnB := hn14.at' fun o e => hideAll_get (zW z z1 qs) e (nW L zL11)
    have gDB := hideAll_get (zW z z1 qs) gD14 (nW d (s11 _ _ gD))
    have cSB := hideAll_get (zW z z1 qs) cS14 (nW (L + 1) (s11 _ _ cSg))
    have cKB := hideAll_get (zW z z1 qs) cK14 (nW (L + 1 + 1) (s11 _ _ cKd))
    have gRB := hideAll_get (zW z z1 qs) (kbA _ _ (nin2 (fun z => ns_noList hn _ _ (z ▸ gR)) (fun z => by rw [z, cKd] at gR; cases gR; cases hKd)) gR) (nW _ (s11 _ _ gR))
    have kbB : KpB [L, L + 1 + 1] s.heap (hideAll h14 (zW z z1 qs)) := fun b o hb e => hideAll_get _ (kbA b o hb e) (nW b (s11 b o e))
    have zB : (hideAll h14 (zW z z1 qs)).objs.size = h14.objs.size := hideAll_size _ _
    have kpB : Kp (hideAll h14 (zW z z1 qs)) h14 := fun b o e => of_hideAll _ e
    have fB : ∀ b ∈ zW z z1 qs, (hideAll h14 (zW z z1 qs)).get? b = none := fun b hb => hideAll_none _ hb
    generalize hideAll h14 (zW z z1 qs) = hB at *
    dsimp only
    k_steps
    refine compAV (hb := hB) (cl := [(Str.ofString "kind", L + 1 + 1)]) (by with_unfolding_all rfl) (by with_unfolding_all rfl) rfl (by decide) rfl rfl rfl hnB ?_
    dsimp only
    refine wpAny_Name (wpAny_loadName_local rfl rfl hn14 rfl ?_) rfl
    refine zSelf st14 ?_
    refine CompIs.mk z (zFp z z0 z1 qs) (zW z z1 qs) n _ _ (fun _ _ i ys _ => StrsAre ys (sgS (gateF q.kd (q.ts.map v)) i)) (zName r.hh oA (ok A.in1 r.hh) hn0' _ _) (by rw [sizeLine_eq]; omega) ⟨.none, .inl rfl, st14⟩ (fun b hb => by rw [sb14.1]; exact (lt b hb).1) kpB (Nat.le_of_eq zB) fB (fun _ _ _ _ => .nil) (fun _ _ _ _ _ _ q _ => q) ?_ ?_
    · rintro PT3 PE3 D4 C4 i v4 ys m4 h16 tk16 hC4 hV4 hcl4 gD4 hPT4 hi ⟨T, vs, rfl, lzT, gTv, f2v⟩ hR4 hys hk4 hn4
      obtain ⟨hn10, hts⟩ : n = 10 ∧ q.ts.map v ≠ [] := hn10'.resolve_left (fun c => by have := c.1; exact Mine.q261 hi c.1)
      have hkd : 2 ≤ q.kd := Int.not_lt.mp fun c => hts (by rw [(okq.small c).2]; rfl)
      have hi10 : i < 10 := by exact Mine.q262 hi hn10
      have hS := f2 i vs hi f2v
      have hSl := hS.length
      rw [List.length_map, List.length_map] at hSl
      have hts1 := (okq.big hkd).1
      have nTC : T ≠ C4 := fun z => by
        obtain ⟨o, es, ep, ho, hd, _⟩ := hn4.noRefKey
        rw [← z, gTv] at ho
        cases ho; cases hd
      refine asgL rfl rfl rfl hn4 fun h17 tk17 hn17 kb17 => ?_
      replace hn17 : h17.Ns C4 _ := hn17
      have zC4 : hB.objs.size ≤ C4 := by rw [zB]; exact hC4
      have nC4 : ∀ b o, hB.get? b = some o → (b : Nat) ≠ C4 := fun b o e => Nat.ne_of_lt (Nat.lt_of_lt_of_le (Heap.lt_size e) zC4)
      have K17 : Kp hB h17 := fun b o e => kb17 b o (nin1 (nC4 b o e)) (hk4 b o e)
      have bB : n₀ ≤ hB.objs.size := Nat.le_trans bL (Nat.le_of_lt hnB.lt)
      refine rebaseFK [(L + 1 + 1, oK2)] GB K17 hn17 (Nat.le_trans bB zC4) (List.forall_mem_singleton.mpr ⟨K17 _ _ cKB, nC4 _ _ cKB, .inl (Nat.le_succ_of_le (Nat.le_succ_of_le bL))⟩) fun h₀6 tail6 F6 N6 off6 lt6 X6 mean6 mg6 mb6 T6 hid6 bk6 => ?_
      simp only [List.cons_append, List.nil_append] at N6 F6
      have TR6 := topRead_of T6
      have gT17 := kb17 _ _ (nin1 nTC) gTv
      have bT : n₀ ≤ T := Nat.le_trans (Nat.le_trans (Nat.le_trans bL (Nat.le_of_lt zL11)) (lo z (.head _))) (Nat.le_of_lt lzT)
      have s17 : n₀ ≤ h17.objs.size := Nat.le_trans (Nat.le_trans bB zC4) (Nat.le_of_lt hn17.lt)
      have fin4 : ∀ h18 tk18 c t, Kp h17 h18 → c = chr i (gateF q.kd (q.ts.map v)) → PT3 (ys ++ [.str c t]) { s with heap := h18, toks := tk18 } := fun h18 tk18 c t k18 ec => by
        refine hPT4 _ _ _ _ (kbCV (kb17.trans k18.b)) (hn17.keeps k18) (clsNil rfl) ?_ (by rw [List.length_append]; exact Nat.succ_le_succ hys)
        rw [sgS_chr, List.range_succ, List.map_append, ← sgS_chr, ec]
        exact StrsAre.append hR4 (.cons _ _ .nil)
      refine test0 ?_
      dsimp only
      k_steps
      · rename_i hk2
        refine medLow (GB.keep K17) (r.less (by exact Mine.q263) (by exact Mine.q264)) s17 gT17 bT hS (by rw [List.length_map, List.length_map]; exact Mine.q186 hts1) (by rw [List.length_map, List.length_map]; exact Mine.q265 lT) ?_
        intro h18 tk18 ss' c t p1 p2 p3 k18
        exact fin4 _ _ _ _ k18 (by rw [hk2]; exact midLow hi10 (by rw [List.length_map]; exact Mine.q186 hts1) p1 p2 p3)
      · rename_i hk2
        refine medHigh (GB.keep K17) (r.less (by exact Mine.q263) (by exact Mine.q264)) s17 gT17 bT hS (by rw [List.length_map, List.length_map]; exact Mine.q186 hts1) (by rw [List.length_map, List.length_map]; exact Mine.q265 lT) ?_
        intro h18 tk18 ss' c t p1 p2 p3 k18
        exact fin4 _ _ _ _ k18 (by rw [show q.kd = 3 by have := okq.hi; exact Mine.q266 hkd hk2 this]; exact midHigh hi10 p1 p2 p3)
    · rintro D4 C4 ys h16 tk16 n16 hk4 hD4 zD4 gD4 hR4 hys hDC4 zC4 hCn4
      refine ⟨hk4, zC4, fun h17 tk17 hn17 kb17 => ?_⟩
      replace hn17 : h17.Ns L _ := hn17
      have nC4 : ∀ b o, hB.get? b = some o → (b : Nat) ≠ C4 := fun b o e => Nat.ne_of_lt (Nat.lt_of_lt_of_le (Heap.lt_size e) zC4)
      have nDL4 : D4 ≠ L := Nat.ne_of_gt (Nat.lt_of_lt_of_le hnB.lt zD4)
      have kL17 : KpB [L] hB h17 := fun b o hb e => kb17 b o (nin2 (fun z => hb (z ▸ .head _)) (nC4 b o e)) (hk4 b o e)
      have gD17 := kb17 _ _ (nin2 nDL4 hDC4) gD4
      have gd17 := kL17 _ _ (nin1 nDL) gDB
      have G17 := GB.keepB kL17 (List.forall_mem_singleton.mpr bL)
      have gR17 := kL17 _ _ (nin1 fun z => ns_noList hnB _ _ (z ▸ gRB)) gRB
      have nD4 : D4 ≠ d := Nat.ne_of_gt (Nat.lt_of_lt_of_le (Heap.lt_size gDB) zD4)
      refine rebaseFK [(D4, W.listOf ys.toArray n16), (d, oD), (L + 1, oSg), (L + 1 + 1, oK2)] G17 (Kp.refl _) hn17 bL (al4 ⟨gD17, nDL4, .inl (Nat.le_trans (Nat.le_trans bL (Nat.le_of_lt hnB.lt)) zD4)⟩ ⟨gd17, nDL, .inl bd⟩ ⟨kL17 _ _ (nin1 (Nat.ne_of_gt (Nat.lt_succ_self L))) cSB, Nat.ne_of_gt (Nat.lt_succ_self L), .inl (Nat.le_succ_of_le bL)⟩ ⟨kL17 _ _ (nin1 (Nat.ne_of_gt (Nat.lt_succ_of_lt (Nat.lt_succ_self L)))) cKB, Nat.ne_of_gt (Nat.lt_succ_of_lt (Nat.lt_succ_self L)), .inl (Nat.le_succ_of_le (Nat.le_succ_of_le bL))⟩) fun h₀6 tail6 F6 N6 off6 lt6 X6 mean6 mg6 mb6 T6 hid6 bk6 => ?_
      simp only [List.cons_append, List.nil_append] at N6 F6
      have TR6 := topRead_of T6
      have tl6 : ∀ x ∈ tail6, x.1 ≠ d := fun x hx e => off6 x hx (e ▸ .tail _ (.head _))
      have zkv : kvs.length ≤ sizeLine := by
        have h1 := congrArg List.length ekv
        rw [List.length_map] at h1
        exact Nat.le_trans (show kvs.length ≤ 1000 by exact Mine.q48 hz h1) (Nat.le_of_ble_eq_true rfl)
      have hn6 : ∀ y, y ≠ Str.ofString "taken" → y ≠ Str.ofString "rights" → y ≠ Str.ofString "columns" → y ≠ Str.ofString "told" → (fun y => if y = Str.ofString "told" then some (Value.ref D4) else if y = Str.ofString "columns" then some (.ref z) else if y = Str.ofString "rights" then some (.ref q.R) else if y = Str.ofString "taken" then some (.ref q.T) else if y = Str.ofString "nodes" then some (.ref aN) else if y = Str.ofString "place" then some (.int p tp) else m y) y = m y := fun y h1 h2 h3 h4 => (if_neg h4).trans ((if_neg h3).trans ((if_neg h2).trans ((if_neg h1).trans (congrFun em y).symm)))
      have fin5 : ∀ h18 tk18 news o18 t bs, Fr h₀6 L h18 (fun y => if y = Str.ofString "told" then some (Value.ref D4) else if y = Str.ofString "columns" then some (.ref z) else if y = Str.ofString "rights" then some (.ref q.R) else if y = Str.ofString "taken" then some (.ref q.T) else if y = Str.ofString "nodes" then some (.ref aN) else if y = Str.ofString "place" then some (.int p tp) else m y) → News h₀6 L h18 news → (∀ x ∈ tail6, x ∈ news) → (L + 1, oSg) ∈ news → (L + 1 + 1, oK2) ∈ news → (d, o18) ∈ news → o18.IsDictOf (intKind prog w) (stored kvs p (.str (sg bs) t)) → bs = (if kdF nd p > 1 then gateF (kdF nd p) ((tkF nd p).map v) else bsF nd p) → PT .next { s with heap := h18, toks := tk18 } := by
        intro h18 tk18 news o18 t bs F18 N18 hx c1 c2 c3 ho eb
        have kb18 := bk6 _ _ _ F18 N18 hx
        refine ret h18 tk18 _ F18.ns hn6 (fun b o hb e => ?_) ⟨_, oK2, N18.get c2, hK2⟩ ⟨o18, _, N18.get c3, stored_new (by rw [ekv]; exact pK) ▸ ho, by rw [List.map_append, ekv]; rfl, fun p' x hx' => ?_⟩
        · have n1 : b ≠ L := fun z => hb (z ▸ .head _)
          have n2 : b ≠ L + 1 + 1 := fun z => hb (z ▸ tl (.head _))
          have n3 : b ≠ d := fun z => hb (z ▸ tl (tl (.head _)))
          have eB := kbB b o (nin2 n1 n2) e
          by_cases c : b = L + 1
          · rw [c] at e ⊢
            rw [cSg] at e
            rw [← Option.some.inj e]
            exact N18.get c1
          · exact kb18 b o (nin5 n1 (Nat.ne_of_lt (Nat.lt_of_lt_of_le (Heap.lt_size eB) zD4)) n3 c n2) (kL17 b o (nin1 n1) eB)
        · rcases List.mem_append.mp hx' with hx' | hx'
          · rw [upd_ne _ _ (show p' ≠ p from fun z => pK (z ▸ ekv ▸ List.mem_map_of_mem hx'))]
            exact hkv p' x hx'
          · obtain ⟨rfl, rfl⟩ := Prod.mk.inj (List.mem_singleton.mp hx')
            rw [upd_self, ← eb]
            exact ⟨t, rfl⟩
      dsimp only
      k_steps
      · (rename Fr _ _ _ _ => F7); (rename News _ _ _ _ => N7)
        rename_i hk1
        have hts : q.ts.map v ≠ [] := fun c => by
          have := (okq.big (by exact Mine.q243 hk1)).1
          rw [← List.length_map (f := v), c] at this
          exact absurd this (by decide)
        have hn10 : n = 10 := (hn10'.resolve_left fun c => hts c.2).1
        rw [hn10] at hR4
        refine join_listC (IsL.isList (N7.get (.head _))) hR4 (by decide) (sgS_small _) ?_
        intro t19 tk19
        dsimp only
        k_steps
        (rename Fr _ _ _ _ => F7); (rename News _ _ _ _ => N7)
        refine' kd_set F7 N7 ?U hiD zkv ?_
        (case U => k_updF)
        intro h18 o18 F18 N18 hd18
        (try dsimp only at N18)
        k_steps
        exact fin5 _ _ _ _ _ _ F18 N18 (fun q hq => tl (tl (tl (tl hq)))) (tl (tl (.head _))) (tl (tl (tl (.head _)))) (tl (.head _)) hd18 (by rw [ekd, if_pos (by omega), etk])
      · rename_i hk1
        refine lstC G17 (r.less (by exact Mine.q267) (by exact Mine.q268)) (Nat.le_trans bL (Nat.le_of_lt hn17.lt)) gR17 (okq.small (by exact Mine.q269 hk1)).1 ?_
        intro h19 tk19 t19 k19
        rw [listing _ (okq.small (by exact Mine.q269 hk1)).1]
        have F8 := F6.keeps k19
        have N8 := N6.grown k19
        clear F6 N6
        dsimp only
        k_steps
        (rename Fr _ _ _ _ => F7); (rename News _ _ _ _ => N7)
        refine' kd_set F7 N7 ?U hiD zkv ?_
        (case U => k_updF)
        intro h18 o18 F18 N18 hd18
        (try dsimp only at N18)
        k_steps
        exact fin5 _ _ _ _ _ _ F18 N18 (fun q hq => tl (tl (tl (tl hq)))) (tl (tl (.head _))) (tl (tl (tl (.head _)))) (tl (.head _)) hd18 (by rw [ekd, if_neg (by omega), ebs]))
end Mine
end
section
open PySem PySem.W PyProof.Rows PySem.Calls PySem.Spec
set_option Elab.async false
set_option maxRecDepth 100000
set_option maxHeartbeats 4000000
namespace Mine
theorem fillKE : (PySem.Challenge.rw_oc0253_01, Mine.hd.heap_1) = (PySem.Challenge.rw_oc0253_01, Mine.hd.heap_1) := by k_fill; rfl
theorem runEnd {prog : Program} {w : World} {n₀ : Nat} {A : Around} {s : Shared} {PT : Flow → Shared → Prop} {PE : Value → Shared → Prop} (G : Gd w n₀ s.heap) (r : Rm A 12 100) {L aR d : Addr} {n : Nat} {m : Str → Option Value} (hn : s.heap.Ns L m) (bL : n₀ ≤ L) (nDL : d ≠ L) {b : Bool}
    (em1 : m (Str.ofString "ring") = some (.bool b)) (em2 : m (Str.ofString "rounds") = some (.ref aR)) {oSg : Obj} (cSg : s.heap.get? (L + 1) = some oSg) (hSg : oSg.data = .cell (some (.ref d))) {K : List Int} {v : Int → List Bool} (S : SgSt prog w s.heap d K v)
    (bd : n₀ ≤ d) (sm : (d == sysModules) = false) (nd : K.Nodup) (hK : ∀ p ∈ K, p ∈ upTo n) (h2 : 2 ≤ K.length) (h64 : K.length < 64) {rv : Array Value} {rn : Nat} {rs : List (List Int)} (gR : s.heap.get? aR = some (W.listOf rv rn)) (hR : RoundsAt s.heap rv.toList rs)
    (ret : ∀ h' tk D, KpB [L] s.heap h' → ResAt h' D b rs (sortK n K) (fun p => sg (v p)) → PT (.ret (.ref D)) { s with heap := h', toks := tk }) :
    wpAny (model prog w) A (execs [rS4] (rEnv L)) PT PE s := by
  obtain ⟨oD, kvs, gD, hiD, ekv, hkv⟩ := S
  have nD1 := neN (dict_ne_cell gD hiD cSg hSg)
  have em := (named em1).trans (congrArg (fun f : Str → Option Value => fun y => if y = Str.ofString "ring" then some (.bool b) else f y) (named em2))
  have hn0 := hn
  rw [em] at hn0
  refine rebaseFK [(d, oD), (L + 1, oSg)] G (Kp.refl _) hn0 bL (al2 ⟨gD, nDL, .inl bd⟩ ⟨cSg, Nat.ne_of_gt (Nat.lt_succ_self L), .inl (Nat.le_succ_of_le bL)⟩) fun h₀9 tail9 F9 N9 off9 lt9 X9 mean9 mg9 mb9 T9 hid9 bk9 => ?_
  simp only [List.cons_append, List.nil_append] at N9 F9
  have TR9 := topRead_of T9
  have zL := hn.lt
  have bS : n₀ ≤ s.heap.objs.size := Nat.le_trans bL (Nat.le_of_lt zL)
  have ekl : kvs.length = K.length := by rw [← ekv, List.length_map]
  w_on
  w_strict (
  k_steps
  obtain ⟨ep, hDA⟩ := (Heap.dictOf_iff.mpr ⟨oD, gD, hiD⟩).dictAt
  refine compV (hb := s.heap) (cl := [(Str.ofString "signs", L + 1)]) (by with_unfolding_all rfl) rfl (by decide) ?_
  k_steps
  refine wpAny_pyIter_dict sm hDA ?_
  have kpI : Kp s.heap (s.heap.push { cls := .type "dict_keyiterator", data := .fields #[.ref d, .int 0 0, .int kvs.length 0, .int ep 0] }) := fun b o e => Heap.get?_push_of_some _ e
  have zaD := Heap.lt_size gD
  have zI : s.heap.objs.size < (s.heap.push { cls := .type "dict_keyiterator", data := .fields #[.ref d, .int 0 0, .int kvs.length 0, .int ep 0] }).objs.size := by rw [Heap.size_push]; exact Nat.lt_succ_self _
  refine CompIs.mk s.heap.objs.size [s.heap.objs.size, d] [s.heap.objs.size] kvs.length _ _ (fun D C i zs h => (s.heap.objs.size + 1 ≤ D ∧ ∀ a, Value.ref a ∈ zs → a ≠ D ∧ a ≠ C ∧ a ≠ s.heap.objs.size) ∧ SgAt h zs (K.take i) fun p => sg (v p)) (Nx.name (Walks.dictKeys (knd := intKind prog w) (A := A) r.hh _ _ (Nat.ne_of_lt zaD) kvs ep) _ _) (by rw [sizeLine_eq]; omega) ⟨⟨_, Heap.get?_push_size _ rfl, rfl, rfl⟩, hDA.push _⟩ (al2 zI (Nat.lt_trans zaD zI)) kpI (Nat.le_of_lt zI) (List.forall_mem_singleton.mpr (Heap.get?_none_of_le (Nat.le_refl _))) (fun _ _ z _ => ⟨⟨by rw [Heap.size_push] at z; exact z, fun _ h => absurd h List.not_mem_nil⟩, rfl, fun i p h => by cases h⟩) ?_ ?_ ?_
  · rintro D C i zs h h' ⟨r1, r2⟩ kb
    refine ⟨r1, r2.1, fun i p hp => ?_⟩
    obtain ⟨a, n, t, t', q, g⟩ := r2.2 i p hp
    have n3 := r1.2 a (List.mem_of_getElem? q)
    exact ⟨a, n, t, t', q, kb _ _ (nin3 n3.1 n3.2.1 n3.2.2) g⟩
  · rintro PT3 PE3 D3 C3 i v3 zs m3 h9 tk9 hC3 hV3 hcl3 gD3 hPT3 hi hv3 ⟨⟨zD3, hne3⟩, hSg3⟩ hzs hk3 hn3
    obtain ⟨p, x, hx, hvx⟩ := hv3
    obtain ⟨tx, rfl⟩ := Value.isInt_shape hvx
    have hki : K[i]? = some p := by
      rw [← ekv, List.getElem?_map, hx]; rfl
    have hpk := List.mem_of_getElem? hki
    have nDC : D3 ≠ C3 := fun z => ns_noList hn3 _ _ (z ▸ gD3)
    refine asgL rfl rfl rfl hn3 fun h10 tk10 hn10 kb10 => ?_
    replace hn10 : h10.Ns C3 _ := hn10
    have zC3 : (s.heap.objs.size : Nat) ≤ C3 := Nat.le_trans (Nat.le_of_lt zI) hC3
    have nC3 : ∀ b o, s.heap.get? b = some o → (b : Nat) ≠ C3 := fun b o e => Nat.ne_of_lt (Nat.lt_of_lt_of_le (Heap.lt_size e) zC3)
    have K10 : Kp s.heap h10 := fun b o e => kb10 b o (nin1 (nC3 b o e)) (hk3 b o e)
    have gD10 := K10 _ _ gD
    have cS10 := K10 _ _ cSg
    refine rebaseFK [(D3, W.listOf zs.toArray zs.length), (d, oD), (L + 1, oSg)] G K10 hn10 (Nat.le_trans bS zC3) (al3 ⟨kb10 _ _ (nin1 nDC) gD3, nDC, .inl (Nat.le_trans bS (Nat.le_of_succ_le zD3))⟩ ⟨gD10, nC3 _ _ gD, .inl bd⟩ ⟨cS10, nC3 _ _ cSg, .inl (Nat.le_succ_of_le bL)⟩) fun h₀6 tail6 F6 N6 off6 lt6 X6 mean6 mg6 mb6 T6 hid6 bk6 => ?_
    simp only [List.cons_append, List.nil_append] at N6 F6
    have TR6 := topRead_of T6
    clear F9 N9 X9 T9 TR9
    refine test0 ?_
    dsimp only
    k_steps
    (rename Fr _ _ _ _ => F6); (rename News _ _ _ _ => N6)
    obtain ⟨x', hx'⟩ : ∃ x, valueAt kvs p = some x := Option.isSome_iff_exists.mp (valueAt_mem.mpr (ekv ▸ hpk))
    obtain ⟨tx', rfl⟩ := hkv p x' (valueAt_some hx')
    refine kd_tail N6 (tl (.head _)) hiD hx' ?_
    dsimp only
    k_steps
    (rename Fr _ _ _ _ => F12); (rename News _ _ _ _ => N12)
    rename_i l12 h12 lt12
    have kb12 := (bk6 _ _ _ F12 N12 fun q hq => tl (tl (tl (tl hq)))).less (W' := [C3]) (al4 (.inl (.head _)) (.inr ⟨_, kb10 _ _ (nin1 nDC) gD3, N12.get (tl (.head _))⟩) (.inr ⟨_, gD10, N12.get (tl (tl (.head _)))⟩) (.inr ⟨_, cS10, N12.get (tl (tl (tl (.head _))))⟩))
    have kb13 := kb10.trans kb12
    have lD : D3 < l12 := ltN lt12.1
    refine hPT3 _ _ _ _ (kbCV kb13) F12.ns (clsNil rfl) ⟨⟨zD3, fun a ha => ?_⟩, ?_⟩ (by rw [List.length_append]; exact Nat.succ_le_succ hzs)
    · rcases List.mem_append.mp ha with ha | ha
      · exact hne3 a ha
      · obtain rfl : a = l12 := Value.ref.inj (List.mem_singleton.mp ha)
        exact ⟨Nat.ne_of_gt lD, (N12 _ (.head _)).2.1, Nat.ne_of_gt (Nat.lt_trans zD3 lD)⟩
    · rw [List.take_add_one, hki]
      exact (hSg3.up fun a xs n g => kb13 _ _ (nin1 fun z => ns_noList hn3 _ _ (z ▸ g)) g).snoc (N12.get (.head _))
  · rintro D3 C3 zs h9 tk9 n9 hk3 hD3 zD3 gD3 ⟨⟨zD4, hne3⟩, hSg3⟩ hzs hDC3 zC3 hCn3 h10 sb10
    have K10 : Kp s.heap h10 := fun b o e => sb10.extBut b o (Nat.ne_of_lt (Nat.lt_of_lt_of_le (Heap.lt_size e) zC3)) (hk3 b o e)
    have gD10 := sb10.extBut _ _ hDC3 gD3
    have hn10 := hn0.keeps K10
    clear F9 N9
    dsimp only
    k_steps
    obtain ⟨mC, hnC⟩ := hCn3
    rw [List.take_of_length_le (by rw [ekl]; exact Nat.le_refl _)] at hSg3
    have nDL3 : D3 ≠ L := Nat.ne_of_gt (Nat.lt_of_lt_of_le zL zD3)
    refine sortSg (n := n) G K10 hn10 bL gD10 nDL3 hD3 (hSg3.up fun a xs n g => sb10.extBut _ _ (fun z => ns_noList hnC _ _ (z ▸ g)) g) (fun a ha => (hne3 a ha).1) nd hK h2 h64 (by have := r.hu; show A.units + 1 + 1 < _; omega) ?_
    intro h15 R15 us15 e15 hn15 kb15 lR15 gR15 S15
    have kb16 := K10.b.trans kb15
    have kl15 : ∀ a xs n, s.heap.get? a = some (W.listOf xs n) → h15.get? a = some (W.listOf xs n) := fun a xs n g => kb16 _ _ (nin1 fun z => ns_noList hn _ _ (z ▸ g)) g
    refine rebaseFK [] (G.keepB kb16 (List.forall_mem_singleton.mpr bL)) (Kp.refl _) hn15 bL (fun _ h => absurd h List.not_mem_nil) fun h₀6 tail6 F6 N6 off6 lt6 X6 mean6 mg6 mb6 T6 hid6 bk6 => ?_
    simp only [List.nil_append] at N6 F6
    have TR6 := topRead_of T6
    clear X9 T9 TR9
    dsimp only
    k_steps
    (rename Fr _ _ _ _ => F7); (rename News _ _ _ _ => N7)
    have kb7 := bk6 _ _ _ F7 N7 fun q hq => tl hq
    have kl7 : ∀ a xs n, h15.get? a = some (W.listOf xs n) → _ := fun a xs n g => kb7 _ _ (nin1 fun z => ns_noList hn15 _ _ (z ▸ g)) g
    exact ret _ _ _ (kb16.trans kb7) ⟨aR, R15, 0, rv, rn, us15.toArray, e15, N7.get (.head _), kl7 _ _ _ (kl15 _ _ _ gR), (hR.up kl15).up kl7, kl7 _ _ _ gR15, S15.up kl7⟩)
end Mine
end
section
open PySem PySem.W PyProof.Rows PySem.Calls PySem.Spec
set_option Elab.async false
set_option maxRecDepth 100000
set_option maxHeartbeats 4000000
namespace Mine
theorem fillKQ : (PySem.Challenge.rw_oc0253_01, Mine.hd.heap_1) = (PySem.Challenge.rw_oc0253_01, Mine.hd.heap_1) := by k_fill; rfl
/-- what the sorter is told of the nodes -/
noncomputable def gAll (g0 : GS) (nd : List Nd) : Nat → GS
  | 0 => g0
  | i + 1 => gNode (gAll g0 nd i) i (tkF nd i)
theorem gNode_len (g : GS) (k : Int) (ps : List Int) : (gNode g k ps).ord.length ≤ g.ord.length + 1 + ps.length := by
  have h1 := gAll_len k ps (gNp (gAdd g k) k ps.length)
  have h2 := gAdd_len g k
  have h3 : (gNp (gAdd g k) k ps.length).ord.length = (gAdd g k).ord.length := rfl
  unfold gNode
  omega
theorem gNode_su {g : GS} {M : Nat} (h : SuB g M) (k : Int) (ps : List Int) : SuB (gNode g k ps) (M + ps.length) := SuB.all (g := gNp (gAdd g k) k ps.length) (h.add k) k ps
theorem gAll_ok {g0 : GS} {nd : List Nd} (h0 : g0.ord = []) (ht : ∀ p : Int, (tkF nd p).length ≤ 4) : ∀ i, (gAll g0 nd i).ord.length ≤ 5 * i ∧ SuB (gAll g0 nd i) (4 * i)
  | 0 => ⟨by show g0.ord.length ≤ _; rw [h0]; exact Nat.le_refl _, fun p hp => by have hp : p ∈ g0.ord := hp; rw [h0] at hp; exact absurd hp List.not_mem_nil⟩
  | i + 1 => by
    obtain ⟨h1, h2⟩ := gAll_ok h0 ht i
    have h3 := gNode_len (gAll g0 nd i) i (tkF nd i)
    have h4 := gNode_su h2 i (tkF nd i)
    have h5 := ht i
    refine ⟨by show (gNode _ _ _).ord.length ≤ _; omega, fun p hp => Nat.le_trans (h4 p hp) (by omega)⟩
theorem tk_len {nd : List Nd} (ok : ∀ q ∈ nd, NodeOk nd.length q.kd q.ts q.bs) (p : Int) : (tkF nd p).length ≤ 4 := by
  unfold tkF
  cases e : nd[p.toNat]? with
  | none => exact Nat.zero_le _
  | some q =>
    have k := ok q (List.mem_of_getElem? e)
    show q.ts.length ≤ 4
    by_cases c : q.kd < 2
    · rw [(k.small c).2]; exact Nat.zero_le _
    · exact (k.big (by exact Mine.q239 c)).2
theorem starL {prog : Program} {w : World} {A : Around} {E : Value → Shared → Prop} {s : Shared} {a : Addr} {its : Array Value} {n : Nat} {Q : List Value → Shared → Prop} (g : s.heap.get? a = some (W.listOf its n)) (hz : its.size ≤ 1000) (h : ∀ h', Kp s.heap h' → Q its.toList { s with heap := h' }) : StarOf (model prog w) A E (.ref a) Q s := by
  have hT : s.TypeIs (.ref a) "list" := ⟨_, g, rfl⟩
  unfold StarOf notIterableAtAll
  exact wpAny_bind (wpAny_specialOf hT PySem.F.slot_list_iter.lookup (wpAny_pure ⟨rfl, wpAny_collect_seq a (.inl rfl) g rfl rfl (fun h' hk => h h' hk) (Nat.le_trans hz (Nat.le_of_ble_eq_true rfl))⟩))
theorem starT {prog : Program} {w : World} {A : Around} {E : Value → Shared → Prop} {s : Shared} {a : Addr} {its : Array Value} {Q : List Value → Shared → Prop} (g : s.heap.get? a = some { cls := .type "tuple", data := .seq its }) (hz : its.size ≤ 1000) (h : ∀ h', Kp s.heap h' → Q its.toList { s with heap := h' }) : StarOf (model prog w) A E (.ref a) Q s := by
  have hT : s.TypeIs (.ref a) "tuple" := ⟨_, g, rfl⟩
  unfold StarOf notIterableAtAll
  exact wpAny_bind (wpAny_specialOf hT PySem.F.slot_tuple_iter.lookup (wpAny_pure ⟨rfl, wpAny_collect_seq a (.inr rfl) g rfl rfl (fun h' hk => h h' hk) (Nat.le_trans hz (Nat.le_of_ble_eq_true rfl))⟩))
/-- a method is called with a star: the method is made first -/
theorem methodStar {M : Model} {A : Around} {E : Value → Shared → Prop} {s : Shared} {env : Env} {o : PySem.Expr} {name : Str} {apos pos : Pos} {args : List PySem.Expr} {Q : Value → Shared → Prop}
    (h : wpAny M A (eval o env) (fun ov s₁ => wpAny M A (getAttr ov name true) (fun f s₂ => wpAny M A (callWith pos f [] (backTo pos (starEach args env)) []) Q E s₂) E s₁) E s)
    (he : eval (.Call (.Attribute o name apos) args [] pos) env = (do
      let ov ← eval o env
      standAt apos.atName
      let (f, first) ← holding [ov] (do pure (← getAttr ov name true, []))
      callWith pos f first (backTo pos (starEach args env)) []) := by rfl) :
    wpAny M A (eval (.Call (.Attribute o name apos) args [] pos) env) Q E s := by
  rw [he]
  exact wpAny_bind (wpAny_mono h (fun ov s₁ h₁ => wpAny_bind (wpAny_standAt (wpAny_bind (wpAny_holding (wpAny_bind (wpAny_mono h₁ (fun fx s₂ h₂ => wpAny_pure h₂) fun _ _ x => x)))))) fun _ _ x => x)
section
variable {M : Model} {A : Around} {E : Value → Shared → Prop} {s : Shared} {K : Frag} {env : Env} {pos p : Pos} {q g : Addr} {self : Value} {Q : Value → Shared → Prop} {e : PySem.Expr} {rest : List PySem.Expr}
theorem callWith_MS (hf : fnIn K g = true) (h : wpAny M A (eval e env) (fun v s₁ => StarOf M A E v (fun vs s₂ => MethP K q g self s₂.heap ∧ wpAny M A (call (.ref q) ([] ++ vs)) Q E s₂) s₁) E s)
    (he : starEach [.Starred e p] env = [(true, eval e env)] := by rfl) :
    wpAny M A (callWith pos (.ref q) [] (backTo pos (starEach [.Starred e p] env)) []) Q E s := by
  rw [he]
  exact ks_call rfl (keeps_M hf) (ks_lone h)
theorem callWith_MS2 (hf : fnIn K g = true) (h : wpAny M A (spliced (backTo pos (starEach (e :: rest) env))) (fun vs s₁ => MethP K q g self s₁.heap ∧ wpAny M A (call (.ref q) ([] ++ vs)) Q E s₁) E s)
    (he : starEach (e :: rest) env = (false, eval e env) :: starEach rest env := by rfl) (hst : (backTo pos (starEach rest env)).any (·.1) = true := by rfl) :
    wpAny M A (callWith pos (.ref q) [] (backTo pos (starEach (e :: rest) env)) []) Q E s := by
  rw [he] at h ⊢
  exact ks_call (by show (false || (backTo pos (starEach rest env)).any (·.1)) = true; rw [hst]; rfl) (keeps_M hf) (evalArgs_plain h)
end
theorem runAdd {prog : Program} {w : World} {n₀ : Nat} {A : Around} {s : Shared} {PT : Flow → Shared → Prop} {PE : Value → Shared → Prop} (G : Gd w n₀ s.heap) (r : Rm A 12 100) {L aN S : Addr} {nd : List Nd} {m : Str → Option Value} (hn : s.heap.Ns L m) (bL : n₀ ≤ L) (H : NodesAt s.heap aN nd)
    (em1 : m (Str.ofString "nodes") = some (.ref aN)) (em2 : m (Str.ofString "sorter") = some (.ref S)) {ℓ : SL} {g0 : GS} {po fi : Int} (h0 : g0.ord = []) (Hs : SrtG prog w n₀ s.heap S ℓ g0 .none po fi) (oL : Off S ℓ g0.ord L)
    (oN : ∀ a o, s.heap.get? a = some o → a = aN ∨ (∃ q ∈ nd, a = q.a ∨ a = q.T) → Off S ℓ g0.ord a ∧ a ≠ L)
    (ret : ∀ h' tk m' ℓ', h'.Ns L m' → (∀ y, y ≠ Str.ofString "place" → y ≠ Str.ofString "node" → m' y = m y) → (∀ b o, b ≠ L → Off S ℓ g0.ord b → s.heap.get? b = some o → h'.get? b = some o) → (∀ b o, s.heap.get? b = some o → Off S ℓ g0.ord b → Off S ℓ' (gAll g0 nd nd.length).ord b) →
      SrtG prog w n₀ h' S ℓ' (gAll g0 nd nd.length) .none po fi → Gd w n₀ h' → PT .next { s with heap := h', toks := tk }) :
    wpAny (model prog w) A (exec rS1 (rEnv L)) PT PE s := by
  have em := (named em1).trans (congrArg (fun f : Str → Option Value => fun y => if y = Str.ofString "nodes" then some (.ref aN) else f y) (named em2))
  have hn0 := hn
  rw [em] at hn0
  obtain ⟨h₀9, tail9, F9, N9, off9, lt9, X9, ⟨mean9, mg9, mb9, T9⟩, hid9, bk9⟩ := rebaseF [] G (Kp.refl _) hn0 bL (fun _ h => absurd h List.not_mem_nil)
  simp only [List.nil_append] at N9 F9
  have TR9 := topRead_of T9
  have zL := hn.lt
  have bS : n₀ ≤ s.heap.objs.size := Nat.le_trans bL (Nat.le_of_lt zL)
  obtain ⟨nn, gNd⟩ := H.ls
  have eN : (nd.map fun q => Value.ref q.a).toArray.size = nd.length := by rw [List.size_toArray, List.length_map]
  have l13 := H.len
  obtain ⟨oNa, nNL⟩ := oN aN _ gNd (.inl rfl)
  w_on
  w_strict (
  refine wpAny_For ?_
  k_steps
  refine call_enumerate_list (IsL.isList gNd) ?_
  intro h6 en6 it6 z6 k6
  refine wpAny_pyIter_enum en6 ?_
  have zN := ltN (Heap.lt_size gNd)
  have Hs6 := Hs.keepK k6
  have oE : Off S ℓ g0.ord (s.heap.objs.size + 1) := Off.none Hs (Heap.get?_none_of_le (Nat.le_succ _))
  have oI : Off S ℓ g0.ord s.heap.objs.size := Off.none Hs (Heap.get?_none_of_le (Nat.le_refl _))
  have fE : s.heap.get? (s.heap.objs.size + 1) = none := Heap.get?_none_of_le (Nat.le_succ _)
  have fI : s.heap.get? s.heap.objs.size = none := Heap.get?_none_of_le (Nat.le_refl _)
  have nLE : L ≠ s.heap.objs.size + 1 := Nat.ne_of_lt (Nat.lt_succ_of_lt zL)
  have nLI : L ≠ s.heap.objs.size := Nat.ne_of_lt zL
  have WkE := WalksT.enumerate (prog := prog) (w := w) (A := A) r.hh (s.heap.objs.size + 1) s.heap.objs.size aN (Nat.ne_of_gt (Nat.lt_succ_self _)) (Nat.ne_of_lt (Nat.lt_succ_of_lt zN)) (Nat.ne_of_lt zN) (nd.map fun q => Value.ref q.a).toArray
  refine forT r.hh (fun i m' h => (∀ y, y ≠ Str.ofString "place" → y ≠ Str.ofString "node" → m' y = m y) ∧ Gd w n₀ h ∧ ∃ ℓi, SrtG prog w n₀ h S ℓi (gAll g0 nd i) .none po fi ∧ (∀ b o, b ≠ L → Off S ℓ g0.ord b → s.heap.get? b = some o → h.get? b = some o) ∧
      (∀ b o, s.heap.get? b = some o → Off S ℓ g0.ord b → Off S ℓi (gAll g0 nd i).ord b) ∧ Off S ℓi (gAll g0 nd i).ord (s.heap.objs.size + 1) ∧ Off S ℓi (gAll g0 nd i).ord s.heap.objs.size)
    (WP.of WkE) (P2 := fun i v0 v1 => ∃ tk q, nd[i]? = some q ∧ v0 = .int i tk ∧ v1 = .ref q.a) (fun i vals ⟨tk, x, h1, h2⟩ => by
      rw [List.getElem?_toArray, List.getElem?_map] at h1
      obtain ⟨q, e1, e2⟩ := Option.map_eq_some_iff.mp h1
      exact ⟨_, _, h2, tk, q, e1, rfl, e2.symm⟩) rfl rfl rfl (show L ∉ [s.heap.objs.size + 1, s.heap.objs.size, aN] from nin3 nLE nLI nNL.symm) ⟨⟨_, en6⟩, it6, (IsL.isList gNd).at fun o e => k6 _ o e⟩ (hn.keeps k6) ⟨fun _ _ _ => rfl, G.keep k6, ℓ, Hs6, fun b o _ _ e => k6 b o e, fun _ _ _ f => f, oE, oI⟩ ?_ ?_
  · rintro PT2 PE2 i v0 v1 m2 h hh tk7 hPT hRet hBrk hi ⟨ti, q, hq, rfl, rfl⟩ ⟨jm, jG, ℓi, jH, jK, jO, oEi, oIi⟩ kb hn7 st
    obtain ⟨oLo, gL⟩ : ∃ o, s.heap.get? L = some o := let ⟨o, _, _, e, _⟩ := hn; ⟨o, e⟩
    have oLi := jO L _ gL oL
    have oNi := jO aN _ gNd oNa
    have H7 := jH.keep kb (al3 oLi oEi oIi)
    have bE : n₀ ≤ s.heap.objs.size + 1 := Nat.le_succ_of_le bS
    have G7 := jG.keepB kb (al3 bL bE bS)
    have hqm := List.mem_of_getElem? hq
    obtain ⟨⟨tq, nq, gq⟩, ⟨vq, nT, gT, hT⟩, _⟩ := H.lie q hqm
    obtain ⟨oQ, nQ⟩ := oN q.a _ gq (.inr ⟨q, hqm, .inl rfl⟩)
    obtain ⟨oT, nT'⟩ := oN q.T _ gT (.inr ⟨q, hqm, .inr rfl⟩)
    have gq7 := kb _ _ (nin3 nQ (Nat.ne_of_lt (Nat.lt_succ_of_lt (ltN (Heap.lt_size gq)))) (Nat.ne_of_lt (Heap.lt_size gq))) (jK _ _ nQ oQ gq)
    have gT7 := kb _ _ (nin3 nT' (Nat.ne_of_lt (Nat.lt_succ_of_lt (ltN (Heap.lt_size gT)))) (Nat.ne_of_lt (Heap.lt_size gT))) (jK _ _ nT' oT gT)
    have etk : tkF nd i = q.ts := by unfold tkF; rw [Int.toNat_natCast, hq]; rfl
    have lT : q.ts.length ≤ 4 := etk ▸ tk_len H.ok i
    have hlT := hT.length
    rw [Array.length_toList] at hlT
    have hil : i < nd.length := by rw [← eN]; exact hi
    obtain ⟨hg1, hg2⟩ := gAll_ok (nd := nd) h0 (tk_len H.ok) i
    have em7 := congrArg (fun f : Str → Option Value => fun y => if y = Str.ofString "node" then some (Value.ref q.a) else if y = Str.ofString "place" then some (Value.int i ti) else f y) (named ((jm _ (by decide) (by decide)).trans em2))
    replace hn7 : hh.Ns L _ := hn7
    rw [em7] at hn7
    obtain ⟨k0, k1, k2, k3, t1, t2, dn, hdS⟩ := H7.dict
    obtain ⟨lo1, lo2, lo3, lo4⟩ := H7.lo
    obtain ⟨h₀8, tail8, F8, N8, off8, lt8, X8, ⟨mean8, mg8, mb8, T8⟩, hid8, bk8⟩ := rebase [(S, instObj 164 ℓi.dS), (ℓi.dS, dictOf (srtD w k0 k1 k2 k3 (.ref ℓi.n2) .none (.int po t1) (.int fi t2)) dn)] G7 hn7 bL (al2 ⟨H7.inst, oLi.s.symm, lo1⟩ ⟨hdS, oLi.d.symm, lo2⟩)
    simp only [List.cons_append, List.nil_append] at N8 F8
    have TR8 := topRead_of T8
    clear F9 N9 X9 T9 TR9
    k_steps
    refine methodStar ?_
    k_steps
    (rename Fr _ _ _ _ => F9); (rename News _ _ _ _ => N9)
    rename_i qm h9 lq
    have c9 := (bk8 _ _ _ F9 N9 fun q hq => tl (tl (tl hq))).less (W' := [L]) (al3 (.inl (.head _)) (.inr ⟨_, H7.inst, N9.get (tl (.head _))⟩) (.inr ⟨_, hdS, N9.get (tl (tl (.head _)))⟩))
    refine callWith_MS2 (K := Mine.hd.heap_1 w.params) (g := 114) (self := .ref S) (by k_is) ?_
    k_steps
    refine item_at (IsL.isList (c9 _ _ (nin1 nQ) gq7)) 1 rfl (Nat.le_of_ble_eq_true rfl) rfl ?_
    dsimp only
    k_steps
    refine starL (c9 _ _ (nin1 nT') gT7) (by omega) ?_
    intro h10 kp10
    dsimp only at kp10 ⊢
    have g10 := kp10 _ _ (N9.get (.head _))
    k_steps
    · exact ⟨g10, X8.keeps fun b o e => kp10 b o (F9.keep b o e)⟩
    refine wpAny_call (method_call g10 ?_)
    dsimp only [List.nil_append, List.cons_append]
    have c10 := c9.trans kp10.b
    have H10 := H7.keep c10 (List.forall_mem_singleton.mpr oLi)
    have hn10 := F9.ns.keeps kp10
    rw [List.append_nil]
    refine addC (ps := q.ts) (G7.keepB c10 (List.forall_mem_singleton.mpr bL)) (r.less (by exact Mine.q267) (by exact Mine.q268)) H10 hT (by omega) hg2 (by omega) ?_
    intro h11 tk11 ℓ11 X11 H11 G11
    have eg : gAll g0 nd (i + 1) = gNode (gAll g0 nd i) i q.ts := by rw [← etk]; rfl
    have lv : ∀ b o, b ≠ L → Off S ℓ g0.ord b → s.heap.get? b = some o → h10.get? b = some o := fun b o nb ob e => c10 b o (nin1 nb) (kb b o (nin3 nb (Nat.ne_of_lt (Nat.lt_succ_of_lt (ltN (Heap.lt_size e)))) (Nat.ne_of_lt (Heap.lt_size e))) (jK b o nb ob e))
    have st10 := WkE.frame _ _ _ st fun b hb o e => c10 b o (nin1 (by
      rcases List.mem_cons.mp hb with rfl | hb
      · exact nLE.symm
      · rcases List.mem_cons.mp hb with rfl | hb
        · exact nLI.symm
        · rw [List.mem_singleton.mp hb]; exact nNL)) e
    obtain ⟨⟨old, gE10⟩, gI10, _⟩ := id st10
    obtain ⟨_, gI10', _⟩ := gI10
    refine wpAny_execs_nil (hPT _ _ ⟨.inl rfl, h11, _, _, rfl, hn10.at' fun o e => X11.keep L o oLi e, WkE.frame _ _ _ st10 fun b hb o e => X11.keep b o (al3 (P := Off S ℓi (gAll g0 nd i).ord) oEi oIi oNi b hb) e, fun y h1 h2 => (if_neg h2).trans ((if_neg h1).trans ((congrFun (named ((jm _ (by decide) (by decide)).trans em2)) y).symm.trans (jm y h1 h2))), G11, ℓ11, ?_⟩)
    rw [eg]
    refine ⟨H11, fun b o nb ob e => X11.keep b o (jO b o e ob) (lv b o nb ob e), fun b o e ob => ?_, X11.off _ _ gE10 oEi, X11.off _ _ gI10' oIi⟩
    by_cases c : b = L
    · obtain ⟨o', _, _, e', _⟩ := hn10
      rw [c]; exact X11.off _ _ e' oLi
    · exact X11.off _ _ (lv b o c ob e) (jO b o e ob)
  · rintro PE2 m2 h h' tk ⟨jm, jG, ℓi, jH, jK, jO, oEi, oIi⟩ kb hn7
    rw [eN] at jH jO oEi oIi
    have bE : n₀ ≤ s.heap.objs.size + 1 := Nat.le_succ_of_le bS
    exact wpAny_execs_nil (ret _ _ _ ℓi hn7 jm (fun b o nb ob e => kb b o (nin2 (Nat.ne_of_lt (Nat.lt_succ_of_lt (ltN (Heap.lt_size e)))) (Nat.ne_of_lt (Heap.lt_size e))) (jK b o nb ob e)) jO (jH.keep kb (al2 oEi oIi)) (jG.keepB kb (al2 bE bS))))
end Mine
end
section
open PySem PySem.W PyProof.Rows PySem.Calls PySem.Spec
set_option Elab.async false
set_option maxRecDepth 100000
set_option maxHeartbeats 4000000
namespace Mine
theorem fillKY : (PySem.Challenge.rw_oc0253_01, Mine.hd.heap_1) = (PySem.Challenge.rw_oc0253_01, Mine.hd.heap_1) := by k_fill; rfl
theorem Gd.keepP {w : World} {n₀ : Nat} {h h' : Heap} (G : Gd w n₀ h) (k : ∀ b o, b < n₀ → h.get? b = some o → h'.get? b = some o) : Gd w n₀ h' :=
  let ⟨g, q, k'⟩ := G
  ⟨g, q, fun b o e => k b o (Nat.lt_of_lt_of_le (Heap.lt_size e) q.size) (k' b o e)⟩
theorem runTry {prog : Program} {w : World} {n₀ : Nat} {A : Around} {s : Shared} {PT : Flow → Shared → Prop} {PE : Value → Shared → Prop} (G : Gd w n₀ s.heap) (r : Rm A 12 100) {L S : Addr} {m : Str → Option Value} (hn : s.heap.Ns L m) (bL : n₀ ≤ L) {es : List Env} (Fs : Frs A (rEnv L :: es) n₀ s.heap)
    (em1 : m (Str.ofString "sorter") = some (.ref S)) (em2 : m (Str.ofString "ring") = some (.bool false)) {ℓ : SL} {ord : List Int} {np : Int → Int} {su : Int → List Int} {po fi : Int} (H : SrtH prog w n₀ s.heap S ℓ ord np su .none po fi) (hoff : ∀ a ∈ frs (rEnv L :: es), Off S ℓ ord a)
    (hol : ord.length ≤ 1000) (hsu : ∀ k ∈ ord, ∀ x ∈ su k, x ∈ ord)
    (ret : ∀ h' tk m' b R rs rn, h'.Ns L m' → (∀ y, y ≠ Str.ofString "ring" → m' y = m y) → m' (Str.ofString "ring") = some (.bool b) → (∀ a o, a ∉ frs (rEnv L :: es) → a ≠ ℓ.dS → s.heap.get? a = some o → h'.get? a = some o) → (∀ a o, a ≠ L → a ≠ ℓ.dS → (∀ vs, o.data ≠ .fields vs) → s.heap.get? a = some o → ∃ sl, h'.get? a = some { o with slots := sl }) →
      SrtH prog w n₀ h' S ℓ ord np su (.ref R) po fi → h'.get? R = some (W.listOf rs rn) → IntsAre rs.toList (ord.filter fun k => decide (np k = 0)) → s.heap.get? R = none → n₀ ≤ R → Gd w n₀ h' →
      ((b = false ∧ ∃ fin, Fin su fin ∧ (∀ p, p ∈ ord ↔ p ∈ fin) ∧ fin.Nodup) ∨ (b = true ∧ ∃ (C : List Int) (x : Int), x ∈ C ∧ (∀ p ∈ C, p ∈ ord) ∧ ∀ p ∈ C, ∃ q ∈ C, p ∈ su q)) → PT .next { s with heap := h', toks := tk }) :
    wpAny (model prog w) A (exec rS2 (rEnv L)) PT PE s := by
  have em := (named em1).trans (congrArg (fun f : Str → Option Value => fun y => if y = Str.ofString "sorter" then some (.ref S) else f y) (named em2))
  have hn0 := hn
  rw [em] at hn0
  have hLf : L ∈ frs (rEnv L :: es) := .head _
  have oL := hoff L hLf
  obtain ⟨k0, k1, k2, k3, t1, t2, dn, hdS⟩ := H.dict
  obtain ⟨lo1, lo2, lo3, lo4⟩ := H.lo
  refine rebaseK [(S, instObj 164 ℓ.dS), (ℓ.dS, dictOf (srtD w k0 k1 k2 k3 (.ref ℓ.n2) .none (.int po t1) (.int fi t2)) dn)] G hn0 bL (al2 ⟨H.inst, oL.s.symm, lo1⟩ ⟨hdS, oL.d.symm, lo2⟩) fun h₀9 tail9 F9 N9 off9 lt9 X9 mean9 mg9 mb9 T9 hid9 bk9 => ?_
  simp only [List.cons_append, List.nil_append] at N9 F9
  have TR9 := topRead_of T9
  w_on
  w_strict (
  refine wpAny_Try_except ?_
  k_steps
  refine prepC G (r.less (by exact Mine.q267) (by exact Mine.q268)) Fs H hoff hol hsu ?_ ?_
  · intro h' tk R rs rn K H' gR hR fR bR G' hfin
    clear F9 N9
    dsimp only
    k_steps
    exact ret _ _ m false R rs rn (ns_slots hn fun o e => K.sl L o oL.d e) (fun _ _ => rfl) em2 (fun a o h1 h2 e => K.kp a o h2 h1 e) (fun a o _ h2 _ e => K.sl a o h2 e) H' gR hR fR bR G' (.inl ⟨rfl, hfin⟩)
  · intro hm h' tk e B a0 R rs rn Lx K H' gR hR fR bR Gm hring FW fLx nRLx kB usl
    refine wpAny_looks_onW Fs.fr rfl FW fun h4 fl4 sm4 => ?_
    refine wpAny_landsW fl4 fun h5 fl5 sm5 => ?_
    have us5 := usl.trans (sm4.trans sm5)
    have lvx : ∀ b o, s.heap.get? b = some o → b ≠ Lx := fun b o e z => by rw [z, fLx] at e; cases e
    have kS : ∀ {hx : Heap}, B.StaysIn hx → ∀ a o, a ∉ frs (rEnv L :: es) → a ≠ ℓ.dS → s.heap.get? a = some o → hx.get? a = some o := fun st a o h1 h2 e => st a o (kB a o h1 (lvx a o e) (K.kp a o h2 h1 e))
    have GS : ∀ {hx : Heap}, B.StaysIn hx → Gd w n₀ hx := fun st => G.keepP fun b o hb e => kS st b o (fun z => absurd (Fs.lo b z) (Nat.not_le.mpr hb)) (fun z => absurd lo2 (Nat.not_le.mpr (z ▸ hb))) e
    have hnm := ns_slots hn0 fun o e => K.sl L o oL.d e
    have hn5 := us5.ns hnm
    refine rebaseK [] (GS fl5.1) hn5 bL (fun _ h => absurd h List.not_mem_nil) fun h₀8 tail8 F8 N8 off8 lt8 X8 mean8 mg8 mb8 T8 hid8 bk8 => ?_
    simp only [List.nil_append] at N8 F8
    have TR8 := topRead_of T8
    clear F9 N9 X9 T9 TR9
    obtain ⟨ob, hob, hobc⟩ := fl5.there
    obtain ⟨bm, N, nm, qn, bs, hdct, sn, sub, ab, col, dd, q0, q1, q2, q3, q5, mN, hC, hN, hni, TL⟩ := ((own_of_in (x := Str.ofString "CycleError") (C := 82) (bmB := [.type "ValueError", .type "Exception", .type "BaseException", .type "object"]) (newId := "ValueError.__new__") X8 TR8 (by k_is) (by kernel_rfl)).keeps F8.keep).obj
    refine wpAny_handleBy_cons (codeAny_handlers_test ?_) (by intro q; cases q)
    k_steps
    refine wpAny_excMatches_sub_self hC hob hobc (TL.hasType (by decide +kernel)) (codeAny_handlers_suite ?_)
    refine lands_againW fl5 fun h6 fl6 sm6 => ?_
    have hn6 := sm6.ns hn5
    have us6 := us5.trans sm6
    clear F8 N8 X8 T8 TR8
    refine rebaseK [] (GS fl6.1) hn6 bL (fun _ h => absurd h List.not_mem_nil) fun h₀8 tail8 F8 N8 off8 lt8 X8 mean8 mg8 mb8 T8 hid8 bk8 => ?_
    simp only [List.nil_append] at N8 F8
    have TR8 := topRead_of T8
    dsimp only
    k_steps
    (rename Fr _ _ _ _ => F7); (rename News _ _ _ _ => N7)
    rename_i h7
    have kb7 := bk8 _ _ _ F7 N7 fun q hq => hq
    have oR := Off.none H fR
    have nLf : ∀ a, a ∉ frs (rEnv L :: es) → a ≠ L := fun a ha z => ha (z ▸ hLf)
    have kB6 : ∀ a o, a ∉ frs (rEnv L :: es) → a ≠ Lx → hm.get? a = some o → h7.get? a = some o := fun a o h1 h2 e => kb7 a o (nin1 (nLf a h1)) (fl6.1 a o (kB a o h1 h2 e))
    have lvR : R ∉ frs (rEnv L :: es) := fun z => by
      obtain ⟨_, o, ho, _⟩ := Fs.ff.mem z
      rw [fR] at ho; cases ho
    have H7 : SrtH prog w n₀ h7 S ℓ ord np su (.ref R) po fi := H'.keep (W := Lx :: frs (rEnv L :: es)) (fun b o hb e => kB6 b o (fun z => hb (.tail _ z)) (fun z => hb (z ▸ .head _)) e) (List.forall_mem_cons.mpr ⟨Off.none H fLx, hoff⟩)
    refine ret _ _ (fun y => if y = Str.ofString "ring" then some (.bool true) else m y) true R rs rn ?_ (fun y h => if_neg h) (if_pos rfl) (fun a o h1 h2 e => kb7 a o (nin1 (nLf a h1)) (kS fl6.1 a o h1 h2 e)) (fun a o h1 h2 hd e => ?_) H7 (kB6 _ _ lvR nRLx gR) hR fR bR ((GS fl6.1).keepB kb7 (List.forall_mem_singleton.mpr bL)) (.inr ⟨rfl, hring⟩)
    · rw [em]; exact F7.ns
    · obtain ⟨sl, q⟩ := K.sl a o h2 e
      obtain ⟨sl', q'⟩ := us6 a _ q hd
      exact ⟨sl', kb7 a _ (nin1 h1) q'⟩)
end Mine
end
section
open PySem PySem.W PyProof.Rows PySem.Calls PySem.Spec
set_option Elab.async false
set_option maxRecDepth 100000
set_option maxHeartbeats 4000000
namespace Mine
/-! plain law of the run's rounds -/
theorem mid_run {n : Nat} {tk su : Int → List Int} (g : Gr n tk su) {D rdy : List Int} {np : Int → Int} (I : RI n tk D np rdy) : ∀ i : Nat,
    DI (fun p => p ∈ upTo n ∧ p ∉ D ++ rdy) (fun p => (cnt tk (D ++ rdy.take i) p : Int)) ((rdy.take i).foldl (doneOne su) (markOut np rdy, [])).1 ((rdy.take i).foldl (doneOne su) (markOut np rdy, [])).2 ∧
      ∀ p ∈ rdy.drop i, ((rdy.take i).foldl (doneOne su) (markOut np rdy, [])).1 p = -1
  | 0 => ⟨mark_run I, fun p hp => if_pos hp⟩
  | i + 1 => by
    obtain ⟨J, hm⟩ := mid_run g I i
    by_cases c : i < rdy.length
    · obtain ⟨q, hq⟩ : ∃ q, rdy[i]? = some q := ⟨_, List.getElem?_eq_getElem c⟩
      have et : rdy.take (i + 1) = rdy.take i ++ [q] := by rw [List.take_add_one, hq]; rfl
      have ed : rdy.drop i = q :: rdy.drop (i + 1) := by
        rw [List.drop_eq_getElem_cons c]
        congr 1
        rw [List.getElem?_eq_getElem c] at hq
        exact Option.some.inj hq
      have e : rdy = rdy.take i ++ q :: rdy.drop (i + 1) := by rw [← ed, List.take_append_drop]
      have hqr : q ∈ rdy := List.mem_of_getElem? hq
      have hqf := mem_free.mp (I.mem.mp hqr)
      have hnd : (rdy.take i ++ q :: rdy.drop (i + 1)).Nodup := e ▸ I.di.nd
      have hqd : q ∉ rdy.take i := fun h => (List.nodup_append.mp hnd).2.2 q h q (.head _) rfl
      have hqrest : q ∉ rdy.drop (i + 1) := (List.nodup_cons.mp (List.nodup_append.mp hnd).2.1).1
      have r := one_run g (U := fun p => p ∈ upTo n ∧ p ∉ D ++ rdy) (C := D ++ rdy.take i) (q := q) hqf.1 (fun h => (List.mem_append.mp h).elim hqf.2.1 hqd) (fun h => h.2 (List.mem_append_right _ hqr)) (fun p hp => hp.1)
        (fun s hs hqs => ⟨hs, fun h => hqf.2.1 ((List.mem_append.mp h).elim (fun hD => I.cl s hD q hqs) fun hr => (mem_free.mp (I.mem.mp hr)).2.2 q hqs)⟩) J
      rw [et, List.foldl_append, List.foldl_cons, List.foldl_nil]
      refine ⟨by rw [← List.append_assoc]; exact r.1, fun p hp => ?_⟩
      have hpq : p ≠ q := fun z => hqrest (z ▸ hp)
      have e2 := r.2 p fun h => h.2 (List.mem_append_right _ (by rw [e]; exact List.mem_append_right _ (.tail _ hp)))
      rw [upd_ne _ _ hpq] at e2
      exact e2.trans (hm p (by rw [ed]; exact .tail _ hp))
    · rw [List.take_of_length_le (by omega)]
      rw [List.take_of_length_le (by exact Mine.q254 c)] at J hm
      exact ⟨J, fun p hp => by rw [List.drop_eq_nil_of_le (by omega)] at hp; exact absurd hp List.not_mem_nil⟩
theorem DI.len {n : Nat} {U : Int → Prop} {f np : Int → Int} {rdy : List Int} (I : DI U f np rdy) (hU : ∀ p, U p → p ∈ upTo n) : rdy.length ≤ n := by
  have := nd_len (m := upTo n) I.nd fun p hp => hU p ((I.rd p).mp hp).1
  rwa [show (upTo n).length = n by unfold upTo; rw [List.length_map, List.length_range]] at this
section
variable {nd : List Nd} {t : Nat}
theorem rd_stop (h : free nd.length (tkF nd) (knF nd t) = []) : ∀ k, rdF nd (t + k) = rdF nd t
  | 0 => rfl
  | k + 1 => by
    show rdF nd (t + k) ++ (if free nd.length (tkF nd) (knF nd (t + k)) = [] then [] else _) = _
    rw [show knF nd (t + k) = knF nd t from kn_stop h k, if_pos h, List.append_nil, rd_stop h k]
theorem val_stop {p : Int} (hp : p ∈ knF nd t) : ∀ k, valF nd (t + k) p = valF nd t p
  | 0 => rfl
  | k + 1 => by
    rw [show t + (k + 1) = (t + k) + 1 from rfl, valF_old (kn_mono (Nat.le_add_right _ _) hp), val_stop hp k]
/-- what a round adds, where it gives something -/
theorem rd_go (h : free nd.length (tkF nd) (knF nd t) ≠ []) : rdF nd (t + 1) = rdF nd t ++ [free nd.length (tkF nd) (knF nd t)] := by
  show rdF nd t ++ (if _ then _ else _) = _
  rw [if_neg h]
/-- the values go by those of what is taken -/
theorem val_go {p : Int} (h : p ∈ free nd.length (tkF nd) (knF nd t)) : (if kdF nd p > 1 then gateF (kdF nd p) ((tkF nd p).map (valF nd (t + 1))) else bsF nd p) = valF nd (t + 1) p := by
  obtain ⟨_, h1, h2⟩ := mem_free.mp h
  rw [valF_new h1, List.map_congr_left fun q hq => valF_old (h2 q hq)]
theorem upd_id {α : Type} (f : Int → α) (k : Int) : upd f k (f k) = f := funext fun j => by
  by_cases e : j = k
  · rw [e, upd_self]
  · rw [upd_ne _ _ e]
/-- the ready, sorted, are the free ones -/
theorem rdy_sorted {K rdy l : List Int} {np : Int → Int} (I : RI nd.length (tkF nd) K np rdy) (hK : ∀ p, p ∈ K ↔ p ∈ knF nd t) (hp : l.Perm rdy) (hs : l.Pairwise (· ≤ ·)) : l = free nd.length (tkF nd) (knF nd t) := by
  refine sorted_eq ?_ (free_pw _) fun p => ?_
  · have nd' := hp.nodup_iff.mpr I.di.nd
    rw [List.nodup_iff_pairwise_ne] at nd'
    exact (hs.and nd').imp fun h => by omega
  · rw [hp.mem_iff, I.mem, free_congr hK]
theorem kn_next {K rdy : List Int} {np : Int → Int} (I : RI nd.length (tkF nd) K np rdy) (hK : ∀ p, p ∈ K ↔ p ∈ knF nd t) (p : Int) : p ∈ K ++ rdy ↔ p ∈ knF nd (t + 1) := by
  rw [List.mem_append, mem_kn_succ, I.mem, hK, free_congr hK]
end
end Mine
end
section
open PySem PySem.W PyProof.Rows PySem.Calls PySem.Spec
set_option Elab.async false
set_option maxRecDepth 100000
set_option maxHeartbeats 4000000
namespace Mine
theorem fillKW : (PySem.Challenge.rw_oc0253_01, Mine.hd.heap_1) = (PySem.Challenge.rw_oc0253_01, Mine.hd.heap_1) := by k_fill; rfl
theorem NodesAt.move {h h' : Heap} {aN : Addr} {nd : List Nd} (H : NodesAt h aN nd) (k : ∀ a xs n, (a = aN ∨ ∃ q ∈ nd, a = q.a ∨ a = q.T ∨ a = q.R) → h.get? a = some (W.listOf xs n) → h'.get? a = some (W.listOf xs n)) : NodesAt h' aN nd := by
  obtain ⟨⟨n, a⟩, b, c, d⟩ := H
  refine ⟨⟨n, k _ _ _ (.inl rfl) a⟩, fun q hq => ?_, c, d⟩
  obtain ⟨⟨t, n, a⟩, ⟨vs, n', b, c⟩, ⟨m, d⟩⟩ := b q hq
  exact ⟨⟨t, n, k _ _ _ (.inr ⟨q, hq, .inl rfl⟩) a⟩, ⟨vs, n', k _ _ _ (.inr ⟨q, hq, .inr (.inl rfl)⟩) b, c⟩, ⟨m, k _ _ _ (.inr ⟨q, hq, .inr (.inr rfl)⟩) d⟩⟩
theorem ns_noTup {h : Heap} {L : Addr} {m : Str → Option Value} (hn : h.Ns L m) (xs : Array Value) : h.get? L ≠ some { cls := .type "tuple", data := .seq xs } := fun e => by
  obtain ⟨o, es, ep, ho, hd, _⟩ := hn.noRefKey
  rw [e] at ho
  cases ho
  cases hd
theorem cell_noSeq {h : Heap} {c : Addr} {v : Option Value} (hc : h.IsCell c v) {o : Obj} (g : h.get? c = some o) (xs : Array Value) (n : Nat) : o.data ≠ .seq xs n := fun e => by
  obtain ⟨o', ho, hd⟩ := hc
  rw [g] at ho
  cases ho
  rw [hd] at e; cases e
theorem dict_noSeq {prog : Program} {w : World} {h : Heap} {d : Addr} {K : List Int} {v : Int → List Bool} (S : SgSt prog w h d K v) {o : Obj} (g : h.get? d = some o) (xs : Array Value) (n : Nat) : o.data ≠ .seq xs n := fun e => by
  obtain ⟨o', kvs, ho, hd, _⟩ := S
  rw [g] at ho
  cases ho
  obtain ⟨_, _, _, hd, _⟩ := hd
  rw [e] at hd; cases hd
/-- the run between two rounds -/
structure WSt (prog : Program) (w : World) (n₀ : Nat) (L S : Addr) (ℓ : SL) (ord : List Int) (su : Int → List Int) (R aN aR d : Addr) (nd : List Nd) (b : Bool) (hb : Heap) (t : Nat) (K : List Int) (np : Int → Int) (rdy : List Int) (h : Heap) : Prop where
  ns : ∃ m, h.Ns L m ∧ m (Str.ofString "nodes") = some (.ref aN) ∧ m (Str.ofString "sorter") = some (.ref S) ∧ m (Str.ofString "rounds") = some (.ref aR) ∧ m (Str.ofString "ring") = some (.bool b)
  gd : Gd w n₀ h
  srt : ∃ po, SrtH prog w n₀ h S ℓ ord np su (.ref R) po po
  rl : ∃ rs rn, h.get? R = some (W.listOf rs rn) ∧ IntsAre rs.toList rdy
  ri : RI nd.length (tkF nd) K np rdy
  km : ∀ p, p ∈ K ↔ p ∈ knF nd t
  kn : K.Nodup
  sg : SgSt prog w h d K (valF nd t)
  rd : ∃ rv rn, h.get? aR = some (W.listOf rv rn) ∧ RoundsAt h rv.toList (rdF nd t) ∧ ∀ a, Value.ref a ∈ rv.toList → Off S ℓ ord a ∧ a ≠ R ∧ a ≠ aR
  kw : ∀ a o, a ∉ [L, L + 1 + 1, d, aR, R] → Off S ℓ ord a → hb.get? a = some o → h.get? a = some o
  ck : ∃ v, h.IsCell (L + 1 + 1) v
theorem arr_empty {rs : Array Value} (h : rs.size = 0) : rs.isEmpty = true := by rw [Array.eq_empty_of_size_eq_zero h]; rfl
theorem arr_some {rs : Array Value} (h : ¬ rs.size = 0) : rs.isEmpty = false := by simp [Array.isEmpty, h]
theorem SgSt.up {prog : Program} {w : World} {h h' : Heap} {d : Addr} {K : List Int} {v : Int → List Bool} (S : SgSt prog w h d K v) (k : ∀ o, h.get? d = some o → h'.get? d = some o) : SgSt prog w h' d K v := by
  obtain ⟨o, kvs, a, b, c, e⟩ := S
  exact ⟨o, kvs, k o a, b, c, e⟩
theorem SgSt.val {prog : Program} {w : World} {h : Heap} {d : Addr} {K : List Int} {v v' : Int → List Bool} (S : SgSt prog w h d K v) (e : ∀ p ∈ K, v p = v' p) : SgSt prog w h d K v' := by
  obtain ⟨o, kvs, a, b, c, f⟩ := S
  exact ⟨o, kvs, a, b, c, fun p x hx => by
    rw [← e p (c ▸ List.mem_map_of_mem hx)]
    exact f p x hx⟩
theorem WSt.kp {prog : Program} {w : World} {n₀ : Nat} {L S R aN aR d : Addr} {ℓ : SL} {ord : List Int} {su : Int → List Int} {nd : List Nd} {b : Bool} {hb h h' : Heap} {t : Nat} {K rdy : List Int} {np : Int → Int} (W : WSt prog w n₀ L S ℓ ord su R aN aR d nd b hb t K np rdy h) (k : Kp h h') : WSt prog w n₀ L S ℓ ord su R aN aR d nd b hb t K np rdy h' := by
  obtain ⟨⟨m, a1, a2⟩, b1, ⟨po, c1⟩, ⟨rs, rn, d1, d2⟩, e1, e2, e3, f1, ⟨rv, rn', g1, g2, g3⟩, h1, v, o, i1, i2⟩ := W
  exact ⟨⟨m, a1.keeps k, a2⟩, b1.keep k, ⟨po, c1.keepK k⟩, ⟨rs, rn, k _ _ d1, d2⟩, e1, e2, e3, f1.up fun o e => k _ _ e, ⟨rv, rn', k _ _ g1, g2.up fun a xs n e => k _ _ e, g3⟩, fun a o x y z => k _ _ (h1 a o x y z), v, o, k _ _ i1, i2⟩
/-- no round gives more: that is the end -/
theorem WSt.fin {prog : Program} {w : World} {n₀ : Nat} {L S R aN aR d : Addr} {ℓ : SL} {ord : List Int} {su : Int → List Int} {nd : List Nd} {b : Bool} {hb h : Heap} {t : Nat} {K : List Int} {np : Int → Int} (W : WSt prog w n₀ L S ℓ ord su R aN aR d nd b hb t K np [] h) (ht : t ≤ K.length) : WSt prog w n₀ L S ℓ ord su R aN aR d nd b hb nd.length K np [] h := by
  have hz : free nd.length (tkF nd) (knF nd t) = [] := by
    cases e : free nd.length (tkF nd) (knF nd t) with
    | nil => rfl
    | cons p l =>
      have : p ∈ free nd.length (tkF nd) K := by rw [free_congr W.km, e]; exact .head _
      exact absurd (W.ri.mem.mpr this) List.not_mem_nil
  have hK : K.length ≤ nd.length := by
    have := nd_len (m := upTo nd.length) W.kn fun p hp => W.ri.inn p hp
    rwa [show (upTo nd.length).length = nd.length by unfold upTo; rw [List.length_map, List.length_range]] at this
  obtain ⟨k, hk⟩ : ∃ k, nd.length = t + k := ⟨nd.length - t, by omega⟩
  obtain ⟨rv, rn', g1, g2, g3⟩ := W.rd
  have ek : knF nd nd.length = knF nd t := by
    have := kn_stop hz k
    rw [← hk] at this; exact this
  have er : rdF nd nd.length = rdF nd t := by
    have := rd_stop hz k
    rw [← hk] at this; exact this
  refine ⟨W.ns, W.gd, W.srt, W.rl, W.ri, by rw [ek]; exact W.km, W.kn, W.sg.val fun p hp => ?_, ⟨rv, rn', g1, by rw [er]; exact g2, g3⟩, W.kw, W.ck⟩
  have := val_stop ((W.km p).mp hp) k
  rw [← hk] at this; exact this.symm
theorem runWhile {prog : Program} {w : World} {n₀ : Nat} {A : Around} {s : Shared} {PT : Flow → Shared → Prop} {PE : Value → Shared → Prop} (r : Rm A 12 100) {L S R aN aR d : Addr} {ℓ : SL} {ord : List Int} {su : Int → List Int} {nd : List Nd} {b : Bool} {np0 : Int → Int} {rdy0 : List Int} (bL : n₀ ≤ L)
    (W0 : WSt prog w n₀ L S ℓ ord su R aN aR d nd b s.heap 0 [] np0 rdy0 s.heap) (H : NodesAt s.heap aN nd) (g : Gr nd.length (tkF nd) su) (hord : ∀ p, p ∈ ord ↔ p ∈ upTo nd.length) (hsl : ∀ q ∈ ord, (su q).length ≤ 100)
    {oSg : Obj} (cSg : s.heap.get? (L + 1) = some oSg) (hSg : oSg.data = .cell (some (.ref d))) (bd : n₀ ≤ d) (bA : n₀ ≤ aR) (bR : n₀ ≤ R) (sm : (d == sysModules) = false) (ndL : d ≠ L) (oL : Off S ℓ ord L) (o1 : Off S ℓ ord (L + 1)) (o2 : Off S ℓ ord (L + 1 + 1)) (od : Off S ℓ ord d) (oA : Off S ℓ ord aR) (oR : Off S ℓ ord R) (nAR : aR ≠ R)
    (oN : ∀ a, (a = aN ∨ ∃ q ∈ nd, a = q.a ∨ a = q.T ∨ a = q.R) → Off S ℓ ord a ∧ a ≠ R ∧ a ≠ aR)
    (ret : ∀ h' tk K np, WSt prog w n₀ L S ℓ ord su R aN aR d nd b s.heap nd.length K np [] h' → PT .next { s with heap := h', toks := tk }) :
    wpAny (model prog w) A (exec rS3 (rEnv L)) PT PE s := by
  w_on
  w_strict (
  refine whileQ (fun k s' => ∃ t K np rdy h tk, s' = { s with heap := h, toks := tk } ∧ WSt prog w n₀ L S ℓ ord su R aN aR d nd b s.heap t K np rdy h ∧ t ≤ K.length ∧ k = nd.length - K.length) ?_ _ ⟨0, [], np0, rdy0, s.heap, s.toks, rfl, W0, Nat.le_refl _, rfl⟩
  rintro PT1 PO PE1 k s' hGo hBrk hRet hPO ⟨t, K, np, rdy, h0, tk0, rfl, Wt, ht, rfl⟩
  obtain ⟨m, hn, em1, em2, em3, em4⟩ := Wt.ns
  obtain ⟨po, Hs⟩ := Wt.srt
  obtain ⟨rs, rn, gR, hR⟩ := Wt.rl
  have G := Wt.gd
  have em := ((named em1).trans (congrArg (fun f : Str → Option Value => fun y => if y = Str.ofString "nodes" then some (.ref aN) else f y) ((named em2).trans (congrArg (fun f : Str → Option Value => fun y => if y = Str.ofString "sorter" then some (.ref S) else f y) (named em3)))))
  have hn0 := hn
  rw [em] at hn0
  have hRl := hR.length
  rw [Array.length_toList] at hRl
  have hrl := Wt.ri.di.len fun p hp => hp.1
  have l13 := H.len
  obtain ⟨k0, k1, k2, k3, t1, t2, dn, hdS⟩ := Hs.dict
  obtain ⟨lo1, lo2, lo3, lo4⟩ := Hs.lo
  refine rebaseK [(S, instObj 164 ℓ.dS), (ℓ.dS, dictOf (srtD w k0 k1 k2 k3 (.ref ℓ.n2) (.ref R) (.int po t1) (.int po t2)) dn)] G hn0 bL (al2 ⟨Hs.inst, oL.s.symm, lo1⟩ ⟨hdS, oL.d.symm, lo2⟩) fun h₀9 tail9 F9 N9 off9 lt9 X9 mean9 mg9 mb9 T9 hid9 bk9 => ?_
  simp only [List.cons_append, List.nil_append] at N9 F9
  have TR9 := topRead_of T9
  have bS : n₀ ≤ h0.objs.size := Hs.size
  k_steps
  refine isActive G (r.less (by exact Mine.q263) (by exact Mine.q264)) bS Hs gR bR (by omega) ?_
  intro h1 tk1 bb ebb kp1
  have W1 := Wt.kp kp1
  have hbb : bb = !rs.isEmpty := by rw [ebb, decide_eq_false (Int.lt_irrefl po), Bool.false_or]
  clear ebb
  have F1 := F9.keeps kp1
  have N1 := N9.grown kp1
  clear F9 N9
  dsimp only
  k_steps
  · have hR0 : 0 < rs.size := by
      refine Nat.pos_of_ne_zero fun z => ?_
      rw [arr_empty z] at hbb
      subst hbb
      exact absurd ‹(!true) = true› (by decide)
    have hin : ∀ p ∈ rdy, p ∈ ord := fun p hp => (hord p).mpr ((mem_free.mp (Wt.ri.mem.mp hp)).1)
    have H1 := Hs.keepK kp1
    have gR1 := kp1 _ _ gR
    have nLR : L ≠ R := fun z => ns_noList hn _ _ (z ▸ gR)
    refine getReady W1.gd (r.less (by exact Mine.q263) (by exact Mine.q264)) H1.size H1 gR1 hR bR (by omega) hin oR ?_
    intro h2 tk2 T n2 kb2 G2 H2 gR2 gT2 bT fT
    have k2 : ∀ a o, Off S ℓ ord a → a ≠ R → h1.get? a = some o → h2.get? a = some o := fun a o f n e => kb2 a o (fun q => by
      rcases List.mem_cons.mp q with q | q
      · exact f.d q
      · rcases List.mem_cons.mp q with q | q
        · exact n q
        · obtain ⟨x, hx, e⟩ := List.mem_map.mp q
          exact f.i x (hin x hx) e.symm) e
    have hn2 := F1.ns.at' fun o e => k2 L o oL nLR e
    have nTL : T ≠ L := fun z => ns_noTup hn2 _ (z ▸ gT2)
    clear F1 N1 X9 T9 TR9
    refine rebaseK [] G2.1 hn2 bL (fun _ h => absurd h List.not_mem_nil) fun h₀8 tail8 F8 N8 off8 lt8 X8 mean8 mg8 mb8 T8 hid8 bk8 => ?_
    simp only [List.nil_append] at N8 F8
    have TR8 := topRead_of T8
    dsimp only
    k_steps
    refine wpAny_For ?_
    k_steps
    (rename Fr _ _ _ _ => F3); (rename News _ _ _ _ => N3)
    rename_i h3
    have kb3 := bk8 _ _ _ F3 N3 fun q hq => hq
    have gT3 := kb3 _ _ (nin1 nTL) gT2
    have G3 := G2.1.keepB kb3 (List.forall_mem_singleton.mpr bL)
    have H3 := H2.keep kb3 (List.forall_mem_singleton.mpr oL)
    have gR3 := kb3 _ _ (nin1 nLR.symm) gR2
    have k3 : ∀ a o, Off S ℓ ord a → a ≠ R → a ≠ L → h0.get? a = some o → h3.get? a = some o := fun a o f n1 n2 e => kb3 a o (nin1 n2) (k2 a o f n1 (kp1 a o e))
    obtain ⟨vK, oKd, cKd, hKd⟩ := Wt.ck
    obtain ⟨oD, kvs, gD, hiD, ekv, hkv⟩ := id Wt.sg
    obtain ⟨rv, rn', gA, hA, hAo⟩ := Wt.rd
    have nAL : aR ≠ L := fun z => ns_noList hn _ _ (z ▸ gA)
    have ndR : d ≠ R := fun z => noDictL gD hiD _ _ (z ▸ gR)
    have ndA : d ≠ aR := fun z => noDictL gD hiD _ _ (z ▸ gA)
    have n2L : L + 1 + 1 ≠ L := Nat.ne_of_gt (Nat.lt_succ_of_lt (Nat.lt_succ_self L))
    have n2R : L + 1 + 1 ≠ R := fun z => cell_noSeq ⟨oKd, z ▸ cKd, hKd⟩ gR _ _ rfl
    have cK3 := k3 _ _ o2 n2R n2L cKd
    have S3 := Wt.sg.up fun o e => k3 _ o od ndR ndL e
    have gA3 := k3 _ _ oA nAR nAL gA
    have hA3 : RoundsAt h3 rv.toList (rdF nd t) := ⟨hA.1, fun i r hr => by
      obtain ⟨a, us, n, q, gq, x⟩ := hA.2 i r hr
      obtain ⟨f1, f2, f3⟩ := hAo a (List.mem_of_getElem? q)
      exact ⟨a, us, n, q, k3 _ _ f1 f2 (fun z => ns_noList hn _ _ (z ▸ gq)) gq, x⟩⟩
    refine wpAny_pyIter_tuple ⟨_, gT3, rfl, _, rfl⟩ ?_
    obtain ⟨m00, hn00, _⟩ := W0.ns
    obtain ⟨v00, o00, c00, d00⟩ := W0.ck
    obtain ⟨oD0, kvs0, gD0, hiD0, _⟩ := id W0.sg
    obtain ⟨rv0, rn0, gA0, _⟩ := W0.rd
    obtain ⟨rs0, rnn0, gR0, _⟩ := W0.rl
    have lk3 : ∀ a xs n, (a = aN ∨ ∃ q ∈ nd, a = q.a ∨ a = q.T ∨ a = q.R) → s.heap.get? a = some (W.listOf xs n) → h3.get? a = some (W.listOf xs n) ∧ a ≠ L ∧ a ≠ L + 1 + 1 ∧ a ≠ d := fun a xs n ha e => by
      obtain ⟨f1, f2, f3⟩ := oN a ha
      have n1 : a ≠ L := fun z => ns_noList hn00 _ _ (z ▸ e)
      have n2 : a ≠ L + 1 + 1 := fun z => cell_noSeq ⟨o00, z ▸ c00, d00⟩ e _ _ rfl
      have n3 : a ≠ d := fun z => noDictL gD0 hiD0 _ _ (z ▸ e)
      exact ⟨k3 _ _ f1 f2 n1 (Wt.kw _ _ (nin5 n1 n2 n3 f3 f2) f1 e), n1, n2, n3⟩
    have n1L : L + 1 ≠ L := Nat.ne_of_gt (Nat.lt_succ_self L)
    have n12 : L + 1 ≠ L + 1 + 1 := Nat.ne_of_lt (Nat.lt_succ_self _)
    have n1d : L + 1 ≠ d := (dict_ne_cell gD0 hiD0 cSg hSg).symm
    have n1A : L + 1 ≠ aR := fun z => cell_noSeq ⟨oSg, z ▸ cSg, hSg⟩ gA0 _ _ rfl
    have n1R : L + 1 ≠ R := fun z => cell_noSeq ⟨oSg, z ▸ cSg, hSg⟩ gR0 _ _ rfl
    have cS3 := k3 _ _ o1 n1R n1L (Wt.kw _ _ (nin5 n1L n12 n1d n1A n1R) o1 cSg)
    have zL3 := ltN F3.ns.lt
    have nIL : h3.objs.size ≠ L := Nat.ne_of_gt zL3
    have nI2 : h3.objs.size ≠ L + 1 + 1 := Nat.ne_of_gt (Heap.lt_size cK3)
    have nId : h3.objs.size ≠ d := Nat.ne_of_gt (Heap.lt_size (k3 _ _ od ndR ndL gD))
    have nTI : T ≠ h3.objs.size := Nat.ne_of_lt (Heap.lt_size gT3)
    have nT2 : T ≠ L + 1 + 1 := fun z => cell_noSeq ⟨oKd, z ▸ cK3, hKd⟩ gT3 _ _ rfl
    have nTd : T ≠ d := fun z => dict_noSeq (z ▸ S3) gT3 _ _ rfl
    have bI : n₀ ≤ h3.objs.size := Nat.le_trans bL (Nat.le_of_lt zL3)
    have b2 : n₀ ≤ L + 1 + 1 := Nat.le_succ_of_le (Nat.le_succ_of_le bL)
    obtain ⟨m3, F4, e1, e2, e3, e4, e5⟩ : ∃ m3, Fr h₀8 L (h3.push { cls := .type "tuple_iterator", data := .fields #[.ref T, .int 0 0] }) m3 ∧ m3 (Str.ofString "nodes") = some (.ref aN) ∧ m3 (Str.ofString "sorter") = some (.ref S) ∧ m3 (Str.ofString "rounds") = some (.ref aR) ∧ m3 (Str.ofString "ring") = some (.bool b) ∧ m3 (Str.ofString "ready") = some (.ref T) := ⟨_, F3.push _, rfl, rfl, rfl, em4, rfl⟩
    refine forQ (fun i m' h => (∀ y, y ≠ Str.ofString "place" → y ≠ Str.ofString "taken" → y ≠ Str.ofString "rights" → y ≠ Str.ofString "columns" → y ≠ Str.ofString "told" → m' y = m3 y) ∧ KpB [L, L + 1 + 1, d] h3 h ∧ Gd w n₀ h ∧ SgSt prog w h d (K ++ rdy.take i) (valF nd (t + 1)) ∧ ∃ v, h.IsCell (L + 1 + 1) v) (Walks.tuple (A := A) r.hh _ _ nTI rs) rfl rfl (nin2 nIL.symm nTL.symm) ⟨⟨_, Heap.get?_push_size _ rfl, rfl, rfl⟩, ⟨_, Heap.get?_push_of_some _ gT3, rfl, _, rfl⟩⟩ F4.ns
      ⟨fun _ _ _ _ _ _ => rfl, fun b o _ e => Heap.get?_push_of_some _ e, G3.keep fun b o e => Heap.get?_push_of_some _ e, by rw [List.take_zero, List.append_nil]; exact (S3.val fun p hp => (valF_old ((Wt.km p).mp hp)).symm).up fun o e => Heap.get?_push_of_some _ e, vK, oKd, Heap.get?_push_of_some _ cK3, hKd⟩ ?_ ?_
    · rintro PT2 PE2 i v m4 h hh tk7 hPT hi hv ⟨jm, jK, jG, jS, vC, oC, jC, jD⟩ kb hn7 st
      have hv' : rs.toList[i]? = some v := (Array.getElem?_toList ..).trans hv
      obtain ⟨p, tp, rfl, hp⟩ := ints_at hR hv'
      have hpr := List.mem_of_getElem? hp
      have hpf : p ∈ free nd.length (tkF nd) (knF nd t) := by rw [← free_congr Wt.km]; exact Wt.ri.mem.mp hpr
      obtain ⟨pU, pK, pT⟩ := mem_free.mp hpf
      have K7 : KpB [L, L + 1 + 1, d] h3 hh := fun b o hb e => kb b o (nin2 (fun z => hb (z ▸ .head _)) (Nat.ne_of_lt (Heap.lt_size e))) (jK b o hb e)
      have etk : rdy.take (i + 1) = rdy.take i ++ [p] := by rw [List.take_add_one, hp]; rfl
      replace hn7 : hh.Ns L _ := hn7
      refine turnC (jG.keepB kb (al2 bL bI)) r hn7 bL ndL (H.move fun a xs n ha e => by
        obtain ⟨q1, q2, q3, q4⟩ := lk3 a xs n ha e
        exact K7 _ _ (nin3 q2 q3 q4) q1) ((if_neg (by decide)).trans ((jm _ (by decide) (by decide) (by decide) (by decide) (by decide)).trans e1)) (if_pos rfl) (K7 _ _ (nin3 n1L n12 n1d) cS3) hSg (kb _ _ (nin2 n2L nI2.symm) jC) jD (jS.up fun o e => kb _ _ (nin2 ndL nId.symm) e) bd sm pU (fun z => ?_) (fun x hx => List.mem_append_left _ ((Wt.km x).mpr (pT x hx))) (fun x hx => ?_) ?_ ?_
      · rcases List.mem_append.mp z with z | z
        · exact pK ((Wt.km p).mp z)
        · exact take_not Wt.ri.di.nd hp z
      · refine valF_len H.ok (t + 1) x ?_
        rw [← kn_next Wt.ri Wt.km]
        rcases List.mem_append.mp hx with z | z
        · exact List.mem_append_left _ z
        · exact List.mem_append_right _ (List.mem_of_mem_take z)
      · have := nd_len (m := upTo nd.length) Wt.kn fun p hp => Wt.ri.inn p hp
        rw [show (upTo nd.length).length = nd.length by unfold upTo; rw [List.length_map, List.length_range]] at this
        rw [List.length_append, List.length_take]; omega
      · intro h8 tk8 m8 hn8 hm8 kb8 hC8 hS8
        rw [val_go hpf, upd_id, List.append_assoc, ← etk] at hS8
        exact hPT _ _ ⟨.inl rfl, h8, tk8, m8, rfl, hn8, ⟨st.1.at fun o e => kb8 _ _ (nin3 nIL nI2 nId) e, st.2.at fun o e => kb8 _ _ (nin3 nTL nT2 nTd) e⟩, fun y q1 q2 q3 q4 q5 => (hm8 y q2 q3 q4 q5).trans ((if_neg q1).trans (jm y q1 q2 q3 q4 q5)), K7.trans kb8, (jG.keepB kb (al2 bL bI)).keepB kb8 (al3 bL b2 bd), hS8, hC8⟩
    · rintro m5 h4 h5 tk5 ⟨jm, jK, jG, jS, vC, oC, jC, jD⟩ kb5 hn5
      rw [List.take_of_length_le (by rw [hRl]; exact Nat.le_refl _)] at jS
      replace hn5 : h5.Ns L _ := hn5
      have K5 : KpB [L, L + 1 + 1, d] h3 h5 := fun b o hb e => kb5 b o (nin1 (Nat.ne_of_lt (Heap.lt_size e))) (jK b o hb e)
      have nA2 : aR ≠ L + 1 + 1 := fun z => cell_noSeq ⟨oKd, z ▸ cKd, hKd⟩ gA _ _ rfl
      have G5 := jG.keepB kb5 (List.forall_mem_singleton.mpr bI)
      have S5 := jS.up fun o e => kb5 _ _ (nin1 nId.symm) e
      have C5 := kb5 _ _ (nin1 nI2.symm) jC
      have gA5 := K5 _ _ (nin3 nAL nA2 ndA.symm) gA3
      have gR5 := K5 _ _ (nin3 nLR.symm n2R.symm ndR.symm) gR3
      have gT5 := K5 _ _ (nin3 nTL nT2 nTd) gT3
      have H5 := H3.keep K5 (al3 oL o2 od)
      obtain ⟨i0, i1, i2, i3, i4, i5, dn5, hdS5⟩ := H5.dict
      have jf : ∀ {y v}, y ≠ Str.ofString "place" → y ≠ Str.ofString "taken" → y ≠ Str.ofString "rights" → y ≠ Str.ofString "columns" → y ≠ Str.ofString "told" → m3 y = some v → m5 y = some v := fun q1 q2 q3 q4 q5 e => (jm _ q1 q2 q3 q4 q5).trans e
      have f1 := jf (by decide) (by decide) (by decide) (by decide) (by decide) e1
      have f2 := jf (by decide) (by decide) (by decide) (by decide) (by decide) e2
      have f3 := jf (by decide) (by decide) (by decide) (by decide) (by decide) e3
      have f4 := jf (by decide) (by decide) (by decide) (by decide) (by decide) e4
      have f5 := jf (by decide) (by decide) (by decide) (by decide) (by decide) e5
      have em5 := (named f2).trans (congrArg (fun f : Str → Option Value => fun y => if y = Str.ofString "sorter" then some (.ref S) else f y) ((named f3).trans (congrArg (fun f : Str → Option Value => fun y => if y = Str.ofString "rounds" then some (.ref aR) else f y) (named f5))))
      have hn50 := hn5
      rw [em5] at hn50
      clear F3 N3 F4 X8 T8 TR8
      refine rebaseK [(aR, W.listOf rv rn'), (S, instObj 164 ℓ.dS), (ℓ.dS, dictOf (srtD w i0 i1 i2 i3 (.ref ℓ.n2) (.ref R) (.int (po + rs.size) i4) (.int po i5)) dn5)] G5 hn50 bL (al3 ⟨gA5, nAL, bA⟩ ⟨H5.inst, oL.s.symm, lo1⟩ ⟨hdS5, oL.d.symm, lo2⟩) fun h₀8 tail8 F8 N8 off8 lt8 X8 mean8 mg8 mb8 T8 hid8 bk8 => ?_
      simp only [List.cons_append, List.nil_append] at N8 F8
      have TR8 := topRead_of T8
      dsimp only
      k_steps
      (rename Fr _ _ _ _ => F9); (rename News _ _ _ _ => N9)
      refine sortedT_ints (vs := rs.toList) ⟨_, gT5, rfl, 0, by rw [Array.toArray_toList]⟩ hR (by rw [Array.length_toList]; omega) ?_
      intro h6 D e6 out ns' hI6 hP6 hS6 kp6 zD6 gD6
      have hns := rdy_sorted Wt.ri Wt.km hP6 hS6
      subst hns
      obtain ⟨F6, N6⟩ := led_new F9 N9 kp6 zD6 gD6
      have nDA : aR ≠ D := Nat.ne_of_lt (Nat.lt_of_lt_of_le (Heap.lt_size gA5) zD6)
      have tlA : ∀ x ∈ tail8, x.1 ≠ aR := fun x hx e => off8 x hx (e ▸ .head _)
      have nSA := neN oA.s
      have nSd := neN oA.d
      have nDA' := neN nDA
      clear F9 N9
      dsimp only
      k_steps
      (rename Fr _ _ _ _ => F6); (rename News _ _ _ _ => N6)
      have hrvl : rv.size ≤ 1000 := by
        have h1 := hA.1
        have h2 := rdF_len nd t
        have h3 := nd_len (m := upTo nd.length) Wt.kn fun p hp => Wt.ri.inn p hp
        rw [show (upTo nd.length).length = nd.length by unfold upTo; rw [List.length_map, List.length_range]] at h3
        rw [Array.length_toList] at h1
        omega
      refine' append_K (its := rv) (n := rn') ?F ?N ?U ?_ ?z
      (case F => assumption)
      (case N => assumption)
      (case U => k_upd)
      (case z => (rw [sizeLine_eq]; exact Mine.q34 hrvl))
      intro h7 F7 N7
      (try dsimp only at N7)
      clear F6 N6
      dsimp only
      k_steps
      refine methodStar ?_
      k_steps
      (rename Fr _ _ _ _ => F9); (rename News _ _ _ _ => N9)
      rename_i qm h9 lq
      refine callWith_MS (K := Mine.hd.heap_1 w.params) (g := 147) (self := .ref S) (by k_is) ?_
      k_steps
      have c9 := (bk8 _ _ _ F9 N9 fun q hq => tl (tl (tl (tl (tl hq))))).less (W' := [L, aR]) (al4 (.inl (.head _)) (.inl (tl (.head _))) (.inr ⟨_, H5.inst, N9.get (tl (tl (tl (.head _))))⟩) (.inr ⟨_, hdS5, N9.get (tl (tl (tl (tl (.head _)))))⟩))
      have nTA : T ≠ aR := fun z => by rw [z, gA5] at gT5; exact absurd (Value.type.inj (congrArg Obj.cls (Option.some.inj gT5))) (by decide)
      refine starT (c9 _ _ (nin2 nTL nTA) gT5) (by omega) ?_
      intro h10 kp10
      dsimp only at kp10 ⊢
      have g10 := kp10 _ _ (N9.get (.head _))
      refine ⟨⟨g10, X8.keeps fun b o e => kp10 b o (F9.keep b o e)⟩, ?_⟩
      refine wpAny_call (method_call g10 ?_)
      dsimp only [List.nil_append]
      have c10 := c9.trans kp10.b
      have H10 := H5.keep c10 (al2 oL oA)
      have hn10 := F9.ns.keeps kp10
      have gD10 := kp10 _ _ (N9.get (tl (.head _)))
      have gA10 := kp10 _ _ (N9.get (tl (tl (.head _))))
      have gR10 := c10 _ _ (nin2 nLR.symm nAR.symm) gR5
      have hsu : ∀ q ∈ ord, ∀ x ∈ su q, x ∈ ord := fun q hq x hx => (hord x).mpr (g.su_in q ((hord q).mp hq) x hx)
      refine doneC (rdy := []) (ns := rdy) (G5.keepB c10 (al2 bL bA)) (r.less (by omega) (by omega)) H10 gR10 .nil bR oR hR (by omega) hin hsu (fun i q hq => ?_) (fun i q hq => ?_) ?_
      · refine (mid_run g Wt.ri i).2 q ?_
        have hil := (List.getElem?_eq_some_iff.mp hq).1
        rw [List.drop_eq_getElem_cons hil]
        rw [List.getElem?_eq_getElem hil] at hq
        rw [Option.some.inj hq]; exact .head _
      · have h1 := (mid_run g Wt.ri i).1.len fun p hp => hp.1
        have h2 := hsl q (hin q (List.mem_of_getElem? hq))
        show ((rdy.take i).foldl (doneOne su) (markOut np rdy, [])).2.length + _ ≤ _
        omega
      · intro h11 tk11 rs11 rn11 k11 H11 gR11 hR11 G11
        have ers : (po + rs.size : Int) = po + rdy.length := by rw [← hRl]
        rw [ers] at H11
        have kN : (K ++ rdy).Nodup := List.nodup_append.mpr ⟨Wt.kn, Wt.ri.di.nd, fun a ha b hb e => (mem_free.mp (Wt.ri.mem.mp hb)).2.1 (e ▸ ha)⟩
        have hK2 := nd_len (m := upTo nd.length) kN fun p hp => (Wt.ri.round g).inn p hp
        rw [show (upTo nd.length).length = nd.length by unfold upTo; rw [List.length_map, List.length_range], List.length_append] at hK2
        have fne : free nd.length (tkF nd) (knF nd t) ≠ [] := fun z => by
          have q := hP6.length_eq
          rw [z] at q
          have q : 0 = rdy.length := q
          omega
        have oD : Off S ℓ ord D := Off.none H5 (Heap.get?_none_of_le zD6)
        have nDR : D ≠ R := Nat.ne_of_gt (Nat.lt_of_lt_of_le (Heap.lt_size gR5) zD6)
        have kl : ∀ a o, Off S ℓ ord a → a ≠ R → a ≠ L → a ≠ aR → h5.get? a = some o → h11.get? a = some o := fun a o f n1 n2 n3 e => k11 a o f n1 (c10 a o (nin2 n2 n3) e)
        have k0 : ∀ a o, Off S ℓ ord a → a ≠ R → a ≠ L → a ≠ aR → a ≠ L + 1 + 1 → a ≠ d → h0.get? a = some o → h11.get? a = some o := fun a o f n1 n2 n3 n4 n5 e => kl a o f n1 n2 n3 (K5 _ _ (nin3 n2 n4 n5) (k3 a o f n1 n2 e))
        refine wpAny_execs_nil (hGo (nd.length - (K ++ rdy).length) _ (by rw [List.length_append]; omega) ⟨t + 1, K ++ rdy, _, _, h11, _, rfl, ⟨⟨_, hn10.at' fun o e => k11 L o oL nLR e, f1, rfl, rfl, f4⟩, G11, ⟨_, H11⟩, ⟨rs11, rn11, gR11, hR11⟩, Wt.ri.round g, kn_next Wt.ri Wt.km, kN, S5.up fun o e => kl _ _ od ndR ndL ndA e, ⟨rv.push (.ref D), rn' + 1, k11 _ _ oA nAR gA10, ?_, fun a ha => ?_⟩, fun a o ha f e => ?_, vC, oC, kl _ _ o2 n2R n2L nA2.symm C5, jD⟩, by rw [List.length_append]; omega, rfl⟩).1
        · rw [rd_go fne, Array.toList_push]
          refine RoundsAt.snoc ⟨hA.1, fun i r hr => ?_⟩ (k11 _ _ oD nDR gD10) hI6
          obtain ⟨a, us, n, q, gq, x⟩ := hA.2 i r hr
          obtain ⟨q1, q2, q3⟩ := hAo a (List.mem_of_getElem? q)
          exact ⟨a, us, n, q, k0 _ _ q1 q2 (fun z => ns_noList hn _ _ (z ▸ gq)) q3 (fun z => cell_noSeq ⟨oKd, z ▸ cKd, hKd⟩ gq _ _ rfl) (fun z => noDictL gD hiD _ _ (z ▸ gq)) gq, x⟩
        · rw [Array.toList_push] at ha
          rcases List.mem_append.mp ha with ha | ha
          · exact hAo a ha
          · obtain rfl : a = D := Value.ref.inj (List.mem_singleton.mp ha)
            exact ⟨oD, nDR, nDA.symm⟩
        · have n1 : a ≠ L := fun z => ha (z ▸ .head _)
          have n2 : a ≠ L + 1 + 1 := fun z => ha (z ▸ tl (.head _))
          have n3 : a ≠ d := fun z => ha (z ▸ tl (tl (.head _)))
          have n4 : a ≠ aR := fun z => ha (z ▸ tl (tl (tl (.head _))))
          have n5 : a ≠ R := fun z => ha (z ▸ tl (tl (tl (tl (.head _)))))
          exact k0 a o f n5 n1 n4 n2 n3 (Wt.kw a o ha f e)
  · have hR0 : rs.size = 0 := by
      refine Decidable.byContradiction fun z => ?_
      rw [arr_some z] at hbb
      subst hbb
      first | exact absurd ‹¬ (!false) = true› (by decide) | exact absurd ‹(!false) = false› (by decide)
    have : rdy = [] := List.length_eq_zero_iff.mp (by omega)
    subst this
    exact hPO _ _ (ret _ _ K np (W1.fin ht)))
end Mine
end
section
open PySem PySem.W PyProof.Rows PySem.Calls PySem.Spec
set_option Elab.async false
set_option maxRecDepth 100000
set_option maxHeartbeats 4000000
namespace Mine
/-! plain: what the sorter has been told is who takes whom -/
noncomputable def gsu (g : GS) (q : Int) : List Int := if q ∈ g.ord then g.su q else []
noncomputable def gnp (g : GS) (q : Int) : Int := if q ∈ g.ord then g.np q else 0
theorem gAdd_ord (g : GS) (k p : Int) : p ∈ (gAdd g k).ord ↔ p ∈ g.ord ∨ p = k := by
  unfold gAdd
  split
  · rename_i h
    exact ⟨.inl, fun q => q.elim id fun e => e ▸ h⟩
  · rw [List.mem_append, List.mem_singleton]
theorem gAdd_nd {g : GS} (h : g.ord.Nodup) (k : Int) : (gAdd g k).ord.Nodup := by
  unfold gAdd
  split
  · exact h
  · rename_i hk
    exact List.nodup_append.mpr ⟨h, List.nodup_cons.mpr ⟨List.not_mem_nil, List.nodup_nil⟩, fun a ha b hb e => hk (List.mem_singleton.mp hb ▸ e ▸ ha)⟩
theorem gAdd_su (g : GS) (k q : Int) : gsu (gAdd g k) q = gsu g q := by
  unfold gsu
  by_cases hk : k ∈ g.ord
  · rw [show gAdd g k = g from if_pos hk]
  · have e : gAdd g k = ⟨g.ord ++ [k], upd g.np k 0, upd g.su k []⟩ := if_neg hk
    rw [e]
    by_cases hq : q = k
    · subst hq
      rw [if_pos (List.mem_append_right _ (.head _)), if_neg hk]
      exact upd_self ..
    · by_cases h : q ∈ g.ord
      · rw [if_pos (List.mem_append_left _ h), if_pos h]
        exact upd_ne _ _ hq
      · rw [if_neg h, if_neg fun z => (List.mem_append.mp z).elim h fun z => hq (List.mem_singleton.mp z)]
theorem gAdd_np (g : GS) (k q : Int) : gnp (gAdd g k) q = gnp g q := by
  unfold gnp
  by_cases hk : k ∈ g.ord
  · rw [show gAdd g k = g from if_pos hk]
  · have e : gAdd g k = ⟨g.ord ++ [k], upd g.np k 0, upd g.su k []⟩ := if_neg hk
    rw [e]
    by_cases hq : q = k
    · subst hq
      rw [if_pos (List.mem_append_right _ (.head _)), if_neg hk]
      exact upd_self ..
    · by_cases h : q ∈ g.ord
      · rw [if_pos (List.mem_append_left _ h), if_pos h]
        exact upd_ne _ _ hq
      · rw [if_neg h, if_neg fun z => (List.mem_append.mp z).elim h fun z => hq (List.mem_singleton.mp z)]
theorem gPre_su (k : Int) (g : GS) (p q : Int) : gsu (gPre k g p) q = if q = p then gsu g p ++ [k] else gsu g q := by
  have h1 : (gPre k g p).ord = (gAdd g p).ord := rfl
  have hp := gAdd_mem g p
  rw [← gAdd_su g p p, ← gAdd_su g p q]
  unfold gsu
  rw [h1]
  by_cases e : q = p
  · subst e
    rw [if_pos hp, if_pos rfl, if_pos hp]
    exact upd_self ..
  · rw [if_neg e]
    show (if _ then upd (gAdd g p).su p _ q else _) = _
    rw [upd_ne _ _ e]
theorem gPre_np (k : Int) (g : GS) (p q : Int) : gnp (gPre k g p) q = gnp g q := gAdd_np g p q
theorem pre_all (k : Int) : ∀ (ps : List Int) (g : GS), g.ord.Nodup → (ps.foldl (gPre k) g).ord.Nodup ∧ (∀ p, p ∈ (ps.foldl (gPre k) g).ord ↔ p ∈ g.ord ∨ p ∈ ps) ∧ (∀ q, gnp (ps.foldl (gPre k) g) q = gnp g q) ∧
    ∀ q p, (gsu (ps.foldl (gPre k) g) q).count p = (gsu g q).count p + if p = k then ps.count q else 0
  | [], g, h => ⟨h, fun p => ⟨.inl, fun q => q.elim id fun z => absurd z List.not_mem_nil⟩, fun _ => rfl, fun q p => by simp⟩
  | a :: ps, g, h => by
    obtain ⟨i1, i2, i3, i4⟩ := pre_all k ps (gPre k g a) (gAdd_nd h a)
    refine ⟨i1, fun p => ?_, fun q => (i3 q).trans (gPre_np k g a q), fun q p => ?_⟩
    · rw [List.foldl_cons, i2, show p ∈ (gPre k g a).ord ↔ _ from gAdd_ord g a p, List.mem_cons]
      constructor
      · rintro ((h | h) | h)
        · exact .inl h
        · exact .inr (.inl h)
        · exact .inr (.inr h)
      · rintro (h | h | h)
        · exact .inl (.inl h)
        · exact .inl (.inr h)
        · exact .inr h
    · rw [List.foldl_cons, i4, gPre_su, List.count_cons]
      by_cases e : q = a
      · subst e
        rw [if_pos rfl, List.count_append, List.count_cons, List.count_nil]
        by_cases e2 : p = k
        · subst e2; simp; omega
        · have : (k == p) = false := by simpa using fun z => e2 z.symm
          simp [e2, this]
      · have : (a == q) = false := by simpa using fun z => e z.symm
        rw [if_neg e, this]; simp
theorem node_all (g : GS) (k : Int) (ps : List Int) (h : g.ord.Nodup) : (gNode g k ps).ord.Nodup ∧ (∀ p, p ∈ (gNode g k ps).ord ↔ p ∈ g.ord ∨ p = k ∨ p ∈ ps) ∧ (∀ q, gnp (gNode g k ps) q = gnp g q + if q = k then (ps.length : Int) else 0) ∧
    ∀ q p, (gsu (gNode g k ps) q).count p = (gsu g q).count p + if p = k then ps.count q else 0 := by
  obtain ⟨i1, i2, i3, i4⟩ := pre_all k ps (gNp (gAdd g k) k ps.length) (gAdd_nd h k)
  refine ⟨i1, fun p => ?_, fun q => ?_, fun q p => ?_⟩
  · show p ∈ (ps.foldl (gPre k) (gNp (gAdd g k) k ps.length)).ord ↔ _
    rw [i2, show p ∈ (gNp (gAdd g k) k ps.length).ord ↔ _ from gAdd_ord g k p]
    constructor
    · rintro ((h | h) | h)
      · exact .inl h
      · exact .inr (.inl h)
      · exact .inr (.inr h)
    · rintro (h | h | h)
      · exact .inl (.inl h)
      · exact .inl (.inr h)
      · exact .inr h
  · show gnp (ps.foldl (gPre k) (gNp (gAdd g k) k ps.length)) q = _
    rw [i3, ← gAdd_np g k q]
    unfold gnp
    show (if q ∈ (gAdd g k).ord then upd (gAdd g k).np k ((gAdd g k).np k + ps.length) q else 0) = _
    by_cases e : q = k
    · subst e
      rw [if_pos (gAdd_mem g q), if_pos (gAdd_mem g q), if_pos rfl, upd_self]
    · rw [upd_ne _ _ e, if_neg e, Int.add_zero]
  · show (gsu (ps.foldl (gPre k) (gNp (gAdd g k) k ps.length)) q).count p = _
    rw [i4, ← gAdd_su g k q]; rfl
theorem all_told {g0 : GS} {nd : List Nd} (h0 : g0.ord = []) : ∀ i : Nat, (gAll g0 nd i).ord.Nodup ∧ (∀ p, p ∈ (gAll g0 nd i).ord ↔ ∃ k : Nat, k < i ∧ (p = k ∨ p ∈ tkF nd k)) ∧ (∀ q, gnp (gAll g0 nd i) q = if 0 ≤ q ∧ q < i then ((tkF nd q).length : Int) else 0) ∧
    ∀ q p, (gsu (gAll g0 nd i) q).count p = if 0 ≤ p ∧ p < i then (tkF nd p).count q else 0
  | 0 => by
    have e : gAll g0 nd 0 = g0 := rfl
    rw [e]
    refine ⟨by rw [h0]; exact List.nodup_nil, fun p => ?_, fun q => ?_, fun q p => ?_⟩
    · rw [h0]; exact ⟨fun h => absurd h List.not_mem_nil, fun ⟨k, hk, _⟩ => absurd hk (Nat.not_lt_zero k)⟩
    · unfold gnp
      rw [h0, if_neg List.not_mem_nil, if_neg (by omega)]
    · unfold gsu
      rw [h0, if_neg List.not_mem_nil, if_neg (by omega)]; rfl
  | i + 1 => by
    obtain ⟨i1, i2, i3, i4⟩ := all_told (nd := nd) h0 i
    obtain ⟨j1, j2, j3, j4⟩ := node_all (gAll g0 nd i) i (tkF nd i) i1
    refine ⟨j1, fun p => ?_, fun q => ?_, fun q p => ?_⟩
    · show p ∈ (gNode (gAll g0 nd i) i (tkF nd i)).ord ↔ _
      rw [j2, i2]
      constructor
      · rintro (⟨k, hk, h⟩ | h)
        · exact ⟨k, Nat.lt_succ_of_lt hk, h⟩
        · exact ⟨i, Nat.lt_succ_self i, h⟩
      · rintro ⟨k, hk, h⟩
        rcases Nat.lt_or_ge k i with c | c
        · exact .inl ⟨k, c, h⟩
        · obtain rfl : k = i := by omega
          exact .inr h
    · show gnp (gNode (gAll g0 nd i) i (tkF nd i)) q = _
      rw [j3, i3]
      by_cases e : q = i
      · subst e
        rw [if_neg (by omega), if_pos rfl, if_pos (by omega), Int.zero_add]
      · rw [if_neg e, Int.add_zero]
        by_cases c : 0 ≤ q ∧ q < i
        · rw [if_pos c, if_pos (by omega)]
        · rw [if_neg c, if_neg (by omega)]
    · show (gsu (gNode (gAll g0 nd i) i (tkF nd i)) q).count p = _
      rw [j4, i4]
      by_cases e : p = i
      · subst e
        rw [if_neg (by omega), if_pos rfl, if_pos (by omega), Nat.zero_add]
      · rw [if_neg e, Nat.add_zero]
        by_cases c : 0 ≤ p ∧ p < i
        · rw [if_pos c, if_pos (by omega)]
        · rw [if_neg c, if_neg (by omega)]
theorem tk_in {nd : List Nd} (ok : ∀ q ∈ nd, NodeOk nd.length q.kd q.ts q.bs) (p q : Int) (hq : q ∈ tkF nd p) : q ∈ upTo nd.length := by
  unfold tkF at hq
  cases e : nd[p.toNat]? with
  | none => rw [e] at hq; exact absurd hq List.not_mem_nil
  | some x =>
    rw [e] at hq
    exact mem_ints.mpr ((ok x (List.mem_of_getElem? e)).rng q hq)
theorem told {g0 : GS} {nd : List Nd} (h0 : g0.ord = []) (ok : ∀ q ∈ nd, NodeOk nd.length q.kd q.ts q.bs) :
    (∀ p, p ∈ (gAll g0 nd nd.length).ord ↔ p ∈ upTo nd.length) ∧ Gr nd.length (tkF nd) (gAll g0 nd nd.length).su ∧
      RI nd.length (tkF nd) [] (gAll g0 nd nd.length).np ((gAll g0 nd nd.length).ord.filter fun k => decide ((gAll g0 nd nd.length).np k = 0)) := by
  obtain ⟨i1, i2, i3, i4⟩ := all_told (nd := nd) h0 nd.length
  have hord : ∀ p, p ∈ (gAll g0 nd nd.length).ord ↔ p ∈ upTo nd.length := fun p => by
    rw [i2]
    constructor
    · rintro ⟨k, hk, rfl | h⟩
      · exact mem_ints.mpr (by omega)
      · exact tk_in ok k p h
    · intro h
      have := mem_ints.mp h
      exact ⟨p.toNat, by exact Mine.q15 this.1 this.2, .inl (by exact Mine.q241 this.1)⟩
  have esu : ∀ q, q ∈ upTo nd.length → gsu (gAll g0 nd nd.length) q = (gAll g0 nd nd.length).su q := fun q hq => if_pos ((hord q).mpr hq)
  have enp : ∀ q, q ∈ upTo nd.length → (gAll g0 nd nd.length).np q = cnt (tkF nd) [] q := fun q hq => by
    have h1 : gnp (gAll g0 nd nd.length) q = (gAll g0 nd nd.length).np q := if_pos ((hord q).mpr hq)
    rw [← h1, i3, if_pos (mem_ints.mp hq)]
    congr 1
    unfold cnt
    exact (List.countP_eq_length.mpr fun a _ => decide_eq_true List.not_mem_nil).symm
  refine ⟨hord, ⟨fun p _ q hq => tk_in ok p q hq, fun q hq p hp => ?_, fun p hp q hq => ?_⟩, ⟨⟨fun p hp => enp p hp.1, fun p => ?_, i1.filter _⟩, fun p hp => absurd hp List.not_mem_nil, fun p hp => absurd hp List.not_mem_nil⟩⟩
  · rw [← esu q hq] at hp
    have h1 := List.count_pos_iff.mpr hp
    rw [i4] at h1
    by_cases c : 0 ≤ p ∧ p < nd.length
    · exact mem_ints.mpr c
    · rw [if_neg c] at h1; exact absurd h1 (Nat.lt_irrefl 0)
  · rw [← esu q hq, i4, if_pos (mem_ints.mp hp)]
  · rw [List.mem_filter, decide_eq_true_eq, hord]
    constructor
    · rintro ⟨a, b⟩
      exact ⟨⟨a, List.not_mem_nil⟩, (enp p a).symm.trans b⟩
    · rintro ⟨⟨a, _⟩, b⟩
      exact ⟨a, (enp p a).trans b⟩
end Mine
end
section
open PySem PySem.W PyProof.Rows PySem.Calls PySem.Spec
set_option Elab.async false
set_option maxRecDepth 100000
set_option maxHeartbeats 4000000
namespace Mine
theorem fillKR : (PySem.Challenge.rw_oc0253_01, Mine.hd.heap_1) = (PySem.Challenge.rw_oc0253_01, Mine.hd.heap_1) := by k_fill; rfl
theorem runC {prog : Program} {w : World} {n₀ : Nat} {A : Around} {s : Shared} {Q E : Value → Shared → Prop} (G : Gd w n₀ s.heap) (r : Rm A 20 200) (hs : n₀ ≤ s.heap.objs.size) {es : List Env} (Fs : Frs A es n₀ s.heap) {aN : Addr} {nd : List Nd} (H : NodesAt s.heap aN nd)
    (hfo : ∀ a ∈ frs es, ∀ xs n, s.heap.get? a ≠ some (W.listOf xs n)) (h2K : 2 ≤ (knF nd nd.length).length)
    (ret : ∀ h' tk D, (∀ a o, a ∉ frs es → s.heap.get? a = some o → h'.get? a = some o) → (∀ a o, (∀ vs, o.data ≠ .fields vs) → s.heap.get? a = some o → ∃ sl, h'.get? a = some { o with slots := sl }) → Gd w n₀ h' →
      ResAt h' D (decide ((knF nd nd.length).length < nd.length)) (rdF nd nd.length) (sortK nd.length (knF nd nd.length)) (fun p => sg (valF nd nd.length p)) → Q (.ref D) { s with heap := h', toks := tk }) :
    wpAny (model prog w) A (call (.ref 235) [.ref aN]) Q E s := by
  w_on
  refine wpAny_call ?_
  refine' startC (K := Mine.hd.heap_1 w.params) [] [(Str.ofString "nodes", .ref aN)] (d := 19) (u := 197) r (fun _ q => q) G hs trivial ?k4 ?k5 ?k7 ?k8 ?k9 ?_ ?c2 ?c3 ?c4
  (case k4 => k_is)
  (case k5 => k_is)
  (case k7 => exact BindsTo.of_eq rfl)
  (case k8 => rfl)
  (case k9 => decide)
  (case c2 => exact rfl)
  (case c3 => exact rfl)
  (case c4 => exact rfl)
  intro A' PQ PE h₁ h₀ L tail mean mg mb tk0 cells rA hQ1 hQ2 hfr Y hcn B F N X TT
  obtain ⟨oK, oS, rfl, hoK, hoS⟩ := CellsAre.two Y
  have hoK' : oK.data = .cell none := hoK
  have hoS' : oS.data = .cell none := hoS
  have hfr' : A'.frames = some (rEnv L :: es) := hfr es Fs.fr
  replace F : Fr h₀ L h₁ (fun y => if y = Str.ofString "nodes" then some (Value.ref aN) else none) := by
    have e : bindL (rEnv L).kindOf [(Str.ofString "nodes", Value.ref aN)] (fun _ => none) = fun y => if y = Str.ofString "nodes" then some (Value.ref aN) else none := rfl
    exact F
  clear hoK hoS hfr Y
  have fK := hcn _ (.head _)
  have fS := hcn _ (tl (.head _))
  simp only [List.cons_append, List.nil_append] at N
  have TR := topRead_of TT
  have zL := ltN F.ns.lt
  have fr : ∀ a : Nat, @LE.le Nat _ L a → s.heap.get? a = none := fun a h => Heap.get?_none_of_le (Nat.le_trans B.ls h)
  show wpAny (model prog w) A' (execs _ (rEnv L)) PQ PE _
  w_strict (
  k_steps
  refine' call_cls ?k1 ?k2 ?k3 ?k4 ?k5 ?k6 ?_
  (case k1 => k_asm)
  (case k2 => k_asm)
  (case k3 => k_asm)
  (case k4 => k_is)
  (case k5 => k_is)
  (case k6 => k_is)
  intro S dS h2 F2 N2 l1 l2
  obtain ⟨G2, hL2⟩ := B.gd _ _ _ F2 N2
  have q1 := ltN (l1 _ (.head _))
  have q2 := ltN (l1 _ (.tail _ (.head _)))
  have q0 := ltN l2
  have bL := B.ln
  dsimp only at q1 q2
  refine srtInit (n₀ := n₀) G2 (Rm.make (rA.less (by omega) (by omega))) hL2 (N2.get (.head _)) (N2.get (.tail _ (.head _))) (by omega) (by omega) (Nat.ne_of_gt l2) ?_
  intro h3 tk3 k0 k1 k2 k3 t1 t2 n2 oN2 kb3 gS3 gD3 gN3 hN3 sm3 fN3 zN3
  refine ⟨rfl, ?_⟩
  have fl' := fresh9 N2 fN3
  obtain ⟨F3, N3⟩ := led_after (news' := (n2, oN2) :: (S, instObj 164 dS) :: (dS, dictOf (srtD w k0 k1 k2 k3 (.ref n2) .none (.int 0 t1) (.int 0 t2)) 4) :: (L + 1 + 1, oK) :: (L + 1, oS) :: tail) F2 N2 [S, dS] kb3 (two ⟨_, .head _⟩ ⟨_, .tail _ (.head _)⟩)
    (cons9 (.inr ⟨gN3, .inr fN3⟩) (cons9 (.inr ⟨gS3, .inl ⟨_, .head _⟩⟩) (cons9 (.inr ⟨gD3, .inl ⟨_, .tail _ (.head _)⟩⟩) fun p hp => .inl ⟨tl (tl hp), nin2 (fun e => Nat.lt_irrefl S (Nat.lt_trans (e ▸ l1 p hp) l2)) (fun e => Nat.lt_irrefl dS (e ▸ l1 p hp))⟩)))
  have p1 := neN (fl' _ (.head _))
  have p2 := neN (fl' _ (.tail _ (.head _)))
  have p3 := neN (fl' _ (.tail _ (.tail _ (.head _))))
  have p4 := neN (fl' _ (.tail _ (.tail _ (.tail _ (.head _)))))
  dsimp only at p1 p2 p3 p4
  have tlS : ∀ p ∈ tail, p.1 ≠ L + 1 := B.off _ (tl (.head _))
  clear N2 F2 fl' F N
  dsimp only
  k_steps
  (rename Fr _ _ _ _ => F4); (rename News _ _ _ _ => N4)
  rename_i d hD oD loD hsD fsD hiD fiD lD aR hA lR aT h4 lT
  refine unpackN_ F4 N4 ⟨_, N4.get (.head _), rfl, _, rfl⟩ rA.hh rfl rfl ?_
  clear F4 N4
  intro h5 F5 N5
  k_steps
  (rename Fr _ _ _ _ => F6); (rename News _ _ _ _ => N6)
  rename_i x1 x2 oS6 hS6 x3 h6
  have kp6 : Kp s.heap h6 := ((B.fin _ _ _ F6 N6 fun q hq => tl (tl (tl (tl (tl (tl (tl (tl hq)))))))).fresh (W' := []) (al2 (.inr fK) (.inr fS))).kp
  obtain ⟨G6, hs6⟩ := B.gd _ _ _ F6 N6
  have H6 := H.up kp6
  have gA6 := N6.get (tl (.head _))
  have gd6 := N6.get (tl (tl (.head _)))
  have gn6 := N6.get (tl (tl (tl (.head _))))
  have gS6 := N6.get (tl (tl (tl (tl (.head _)))))
  have gD6 := N6.get (tl (tl (tl (tl (tl (.head _))))))
  have gK6 := N6.get (tl (tl (tl (tl (tl (tl (.head _)))))))
  have gC6 := N6.get (tl (tl (tl (tl (tl (tl (tl (.head _))))))))
  have hn6 := F6.ns
  have lsL := B.ls
  have bLn : @LE.le Nat _ n₀ L := bL
  have zN := ltN zN3
  have bs1 : @LE.le Nat _ n₀ S := by omega
  have bs2 : @LE.le Nat _ n₀ dS := by omega
  have bs3 : @LE.le Nat _ n₀ n2 := by omega
  have zLS : @LT.lt Nat _ L S ∧ @LT.lt Nat _ L dS ∧ @LT.lt Nat _ L n2 := ⟨by omega, by omega, by omega⟩
  have HS : SrtG prog w n₀ h6 S ⟨dS, n2, fun _ => 0, fun _ => 0, fun _ => 0⟩ ⟨[], fun _ => 0, fun _ => []⟩ .none 0 0 :=
    ⟨gS6, ⟨_, _, _, _, _, _, _, gD6⟩, ⟨oN2, gn6, hN3⟩, fun k hk => absurd hk List.not_mem_nil, fun k hk => absurd hk List.not_mem_nil, p2, fun k hk => absurd hk List.not_mem_nil, fun k hk => absurd hk List.not_mem_nil, sm3, bs1, bs2, bs3, fun k hk => absurd hk List.not_mem_nil⟩
  have off0 : ∀ a : Nat, a ≠ S → a ≠ dS → a ≠ n2 → Off S ⟨dS, n2, fun _ => 0, fun _ => 0, fun _ => 0⟩ [] a := fun a z1 z2 z3 => ⟨z1, z2, z3, fun k hk => absurd hk List.not_mem_nil, fun k hk => absurd hk List.not_mem_nil, fun k hk => absurd hk List.not_mem_nil⟩
  have offS : ∀ a o, s.heap.get? a = some o → Off S ⟨dS, n2, fun _ => 0, fun _ => 0, fun _ => 0⟩ [] a ∧ a ≠ L := fun a o e => by
    have q : @LT.lt Nat _ a L := Nat.lt_of_lt_of_le (Heap.lt_size e) lsL
    exact ⟨off0 a (Nat.ne_of_lt (Nat.lt_trans q zLS.1)) (Nat.ne_of_lt (Nat.lt_trans q zLS.2.1)) (Nat.ne_of_lt (Nat.lt_trans q zLS.2.2)), Nat.ne_of_lt q⟩
  have lvN : ∀ a, (a = aN ∨ ∃ q ∈ nd, a = q.a ∨ a = q.T ∨ a = q.R) → ∃ xs n, s.heap.get? a = some (W.listOf xs n) := fun a ha => by
    rcases ha with rfl | ⟨q, hq, ha⟩
    · obtain ⟨n, g⟩ := H.ls; exact ⟨_, n, g⟩
    · obtain ⟨⟨t, n, g1⟩, ⟨vs, n', g2, _⟩, n'', g3⟩ := H.lie q hq
      rcases ha with rfl | rfl | rfl
      · exact ⟨_, n, g1⟩
      · exact ⟨_, n', g2⟩
      · exact ⟨_, n'', g3⟩
  obtain ⟨m6, hn6', e1, e2, e3, e4⟩ : ∃ m6, h6.Ns L m6 ∧ m6 (Str.ofString "nodes") = some (.ref aN) ∧ m6 (Str.ofString "sorter") = some (.ref S) ∧ m6 (Str.ofString "rounds") = some (.ref aR) ∧ m6 (Str.ofString "ring") = some (.bool false) := ⟨_, hn6, rfl, rfl, rfl, rfl⟩
  refine runAdd G6 (rA.less (by omega) (by omega)) hn6' bL H6 e1 e2 rfl HS (off0 L (Nat.ne_of_lt zLS.1) (Nat.ne_of_lt zLS.2.1) (Nat.ne_of_lt zLS.2.2)) (fun a o _ ha => ?_) ?_
  · obtain ⟨xs, n, g⟩ := lvN a (ha.imp id fun ⟨q, hq, h⟩ => ⟨q, hq, h.imp id .inl⟩)
    exact offS a _ g
  intro h7 tk7 m7 ℓ7 hn7 jm7 k7 o7 H7 G7
  have kp7 : Kp s.heap h7 := fun a o e => k7 a o (offS a o e).2 (offS a o e).1 (kp6 a o e)
  have off7 := fun a o (e : s.heap.get? a = some o) => o7 a o (kp6 a o e) (offS a o e).1
  obtain ⟨oLo, gL6⟩ : ∃ o, h6.get? L = some o := let ⟨o, _, _, e, _⟩ := hn6'; ⟨o, e⟩
  have up7 : ∀ a o, a ≠ L → a ≠ S → a ≠ dS → a ≠ n2 → h6.get? a = some o → h7.get? a = some o ∧ Off S ℓ7 _ a := fun a o z0 z1 z2 z3 e => ⟨k7 a o z0 (off0 a z1 z2 z3) e, o7 a o e (off0 a z1 z2 z3)⟩
  have oL7 := o7 L _ gL6 (off0 L (Nat.ne_of_lt zLS.1) (Nat.ne_of_lt zLS.2.1) (Nat.ne_of_lt zLS.2.2))
  obtain ⟨gK7, oK7⟩ := up7 _ _ (Nat.ne_of_gt (Nat.lt_succ_of_lt (Nat.lt_succ_self L))) (neN (by omega)) (neN (by omega)) (neN (by omega)) gK6
  obtain ⟨gC7, oC7⟩ := up7 _ _ (Nat.ne_of_gt (Nat.lt_succ_self L)) (neN (by omega)) (neN (by omega)) (neN (by omega)) gC6
  have ld1 := ltN lD.1
  have ld2 := ltN lD.2.1
  have ld3 := ltN lD.2.2.1
  have la1 := ltN lR.1
  have la2 := ltN lR.2.1
  have la3 := ltN lR.2.2.1
  have la4 := ltN lR.2.2.2.1
  obtain ⟨gd7, od7⟩ := up7 _ _ (neN (by omega)) (neN (by exact Mine.q7 lD.2.1)) (neN (by exact Mine.q7 lD.2.2.1)) (neN (by exact Mine.q7 lD.1)) gd6
  obtain ⟨gA7, oA7⟩ := up7 _ _ (neN (by omega)) (neN (by exact Mine.q7 lR.2.2.1)) (neN (by exact Mine.q7 lR.2.2.2.1)) (neN (by exact Mine.q7 lR.2.1)) gA6
  obtain ⟨hord, hgr, hri⟩ := told (g0 := ⟨[], fun _ => 0, fun _ => []⟩) (nd := nd) rfl H.ok
  obtain ⟨hlo, hsl⟩ := gAll_ok (g0 := ⟨[], fun _ => 0, fun _ => []⟩) (nd := nd) rfl (tk_len H.ok) nd.length
  have l13 := H.len
  generalize gAll ⟨[], fun _ => 0, fun _ => []⟩ nd nd.length = g at *
  have Fs7 : Frs A' (rEnv L :: es) n₀ h7 := Fs.push (fr := frs es) (KpS.of kp7) hfr' rfl rfl hn7 bL
  have hsu : ∀ k ∈ g.ord, ∀ x ∈ g.su k, x ∈ g.ord := fun q hq x hx => (hord x).mpr (hgr.su_in q ((hord q).mp hq) x hx)
  have hof7 : ∀ a ∈ frs (rEnv L :: es), Off S ℓ7 g.ord a := List.forall_mem_cons.mpr ⟨oL7, fun a ha => by
    obtain ⟨_, o, ho, _⟩ := Fs.ff.mem ha
    exact off7 a o ho⟩
  have nfr : ∀ a, a ≠ L → s.heap.get? a = none → a ∉ frs (rEnv L :: es) := fun a z h q => by
    rcases List.mem_cons.mp q with q | q
    · exact z q
    · obtain ⟨_, o, ho, _⟩ := Fs.ff.mem q
      rw [h] at ho; cases ho
  dsimp only
  refine wpAny_execs_cons ?_
  refine runTry G7 (rA.less (by omega) (by omega)) hn7 bL Fs7 ((jm7 _ (by decide) (by decide)).trans e2) ((jm7 _ (by decide) (by decide)).trans e4) H7 hof7 (by omega) hsu ?_
  intro h8 tk8 m8 b R rs rn hn8 jm8 eb8 k8 sl8 H8 gR8 hR8 fR8 bR8 G8 hcase
  dsimp only
  refine wpAny_execs_cons ?_
  have fd : s.heap.get? d = none := fr _ (by exact Mine.q156 lD.2.2.2.1)
  have fA : s.heap.get? aR = none := fr _ (by exact Mine.q156 lR.2.2.2.2.1)
  have ndL : d ≠ L := neN (by omega)
  have nAL : aR ≠ L := neN (by omega)
  have n1L : L + 1 ≠ L := Nat.ne_of_gt (Nat.lt_succ_self L)
  have n2L : L + 1 + 1 ≠ L := Nat.ne_of_gt (Nat.lt_succ_of_lt (Nat.lt_succ_self L))
  have up8 : ∀ a o, a ≠ L → s.heap.get? a = none → Off S ℓ7 g.ord a → h7.get? a = some o → h8.get? a = some o := fun a o z f q e => k8 a o (nfr a z f) q.d e
  have gd8 := up8 _ _ ndL fd od7 gd7
  have gA8 := up8 _ _ nAL fA oA7 gA7
  have gC8 := up8 _ _ n1L fS oC7 gC7
  have gK8 := up8 _ _ n2L fK oK7 gK7
  have lvR : ∀ a o, h7.get? a = some o → a ≠ R := fun a o e z => by rw [z, fR8] at e; cases e
  have nN : ∀ a xs n, s.heap.get? a = some (W.listOf xs n) → a ∉ frs (rEnv L :: es) := fun a xs n e q => by
    rcases List.mem_cons.mp q with q | q
    · exact (offS a _ e).2 q
    · exact hfo a q xs n e
  have H8n : NodesAt h8 aN nd := H.move fun a xs n _ e => k8 a _ (nN a xs n e) (off7 a _ e).d (kp7 a _ e)
  refine runWhile (np0 := g.np) (su := g.su) (rdy0 := g.ord.filter fun k => decide (g.np k = 0)) (rA.less (by omega) (by omega)) bL
    ⟨⟨m8, hn8, (jm8 _ (by decide)).trans ((jm7 _ (by decide) (by decide)).trans e1), (jm8 _ (by decide)).trans ((jm7 _ (by decide) (by decide)).trans e2), (jm8 _ (by decide)).trans ((jm7 _ (by decide) (by decide)).trans e3), eb8⟩, G8, ⟨0, H8⟩, ⟨rs, rn, gR8, hR8⟩, hri, fun p => Iff.rfl, List.nodup_nil, ⟨oD, [], gd8, hiD, rfl, fun _ _ h => absurd h List.not_mem_nil⟩,
      ⟨#[], 0, gA8, ⟨rfl, fun i r h => by cases h⟩, fun a h => absurd h List.not_mem_nil⟩, fun a o _ _ e => e, none, oK, gK8, hoK'⟩
    H8n hgr hord (fun q hq => Nat.le_trans (hsl q hq) (by omega)) gC8 hS6 (Nat.le_trans bL (by exact Mine.q156 lD.2.2.2.1)) (Nat.le_trans bL (by exact Mine.q156 lR.2.2.2.2.1)) bR8 loD ndL oL7 oC7 oK7 od7 oA7 (Off.none H7 fR8) (lvR _ _ gA7) (fun a ha => ?_) ?_
  · obtain ⟨xs, n, e⟩ := lvN a ha
    exact ⟨off7 a _ e, lvR a _ (kp7 a _ e), fun z => by rw [z, fA] at e; cases e⟩
  intro h9 tk9 K np9 W9
  obtain ⟨m9, hn9, f1, f2, f3, f4⟩ := W9.ns
  obtain ⟨rv, rn9, gA9, hA9, _⟩ := W9.rd
  have hKn : ∀ p ∈ K, p ∈ upTo nd.length := fun p hp => kn_ints ((W9.km p).mp hp)
  have eKl : K.length = (knF nd nd.length).length := Nat.le_antisymm (nd_len W9.kn fun p hp => (W9.km p).mp hp) (nd_len (kn_nodup _) fun p hp => (W9.km p).mpr hp)
  have hKle : (knF nd nd.length).length ≤ nd.length := kn_len nd.length (tkF nd) nd.length
  have eSK : sortK nd.length K = sortK nd.length (knF nd nd.length) := List.filter_congr fun p _ => decide_eq_decide.mpr (W9.km p)
  have eb : b = decide ((knF nd nd.length).length < nd.length) := by
    rcases hcase with ⟨rfl, fin, q1, q2, q3⟩ | ⟨rfl, C, x, q1, q2, q3⟩
    · have : (knF nd nd.length).length = nd.length := full_of_fin hgr q1 (fun p => (hord p).symm.trans (q2 p)) q3
      rw [this, decide_eq_false (Nat.lt_irrefl _)]
    · have : (knF nd nd.length).length < nd.length := less_of_ring hgr q1 (fun p hp => (hord p).mp (q2 p hp)) q3
      rw [decide_eq_true this]
  have kn9 : ∀ a o, a ≠ L → a ≠ L + 1 + 1 → a ≠ d → a ≠ aR → a ≠ R → Off S ℓ7 g.ord a → h8.get? a = some o → h9.get? a = some o := fun a o z1 z2 z3 z4 z5 f e => W9.kw a o (nin5 z1 z2 z3 z4 z5) f e
  have gC9 := kn9 _ _ n1L (Nat.ne_of_lt (Nat.lt_succ_self _)) (neN (by omega)) (neN (by omega)) (lvR _ _ gC7) oC7 gC8
  have lv9 : ∀ a o, s.heap.get? a = some o → a ≠ L ∧ a ≠ L + 1 + 1 ∧ a ≠ d ∧ a ≠ aR ∧ a ≠ R := fun a o e => ⟨(offS a o e).2, fun z => (by rw [z, fK] at e; cases e), fun z => (by rw [z, fd] at e; cases e), fun z => (by rw [z, fA] at e; cases e), lvR a o (kp7 a o e)⟩
  dsimp only
  refine runEnd (n := nd.length) (b := b) (v := valF nd nd.length) W9.gd (rA.less (by omega) (by omega)) hn9 bL ndL f4 f3 gC9 hS6 W9.sg (Nat.le_trans bL (by exact Mine.q156 lD.2.2.2.1)) loD W9.kn hKn (by omega) (by omega) gA9 hA9 ?_
  intro h10 tk10 D kb10 hRes
  rw [eSK, eb] at hRes
  refine hQ1 _ _ (ret h10 tk10 D (fun a o ha e => ?_) (fun a o hd e => ?_) (W9.gd.keepB kb10 (List.forall_mem_singleton.mpr bL)) hRes)
  · obtain ⟨z1, z2, z3, z4, z5⟩ := lv9 a o e
    have e8 := k8 a o (fun q => (List.mem_cons.mp q).elim z1 ha) (off7 a o e).d (kp7 a o e)
    exact kb10 a o (nin1 z1) (kn9 a o z1 z2 z3 z4 z5 (off7 a o e) e8)
  · obtain ⟨z1, z2, z3, z4, z5⟩ := lv9 a o e
    obtain ⟨sl, e8⟩ := sl8 a o z1 (off7 a o e).d hd (kp7 a o e)
    exact ⟨sl, kb10 a _ (nin1 z1) (kn9 a _ z1 z2 z3 z4 z5 (off7 a o e) e8)⟩)
end Mine
end
section
open PySem PySem.W PyProof.Rows PySem.Calls PySem.Spec
set_option Elab.async false
set_option maxRecDepth 100000
set_option maxHeartbeats 4000000
namespace Mine
/-! the plain ends of the law: two answers read alike; two nodes at least are known -/
theorem canLayAll_of : ∀ {xs : List PyData}, (∀ x ∈ xs, x.canLay0 = true) → PyData.canLayAll0 xs = true
  | [], _ => rfl
  | x :: xs, h => by
    rw [PyData.canLayAll0, h x (.head _), canLayAll_of fun y hy => h y (.tail _ hy)]; rfl
theorem depthAll_le {n : Nat} : ∀ {xs : List PyData}, (∀ x ∈ xs, x.depth ≤ n) → PyData.depthAll xs ≤ n
  | [], _ => by rw [PyData.depthAll]; exact Nat.zero_le _
  | x :: xs, h => by
    rw [PyData.depthAll]
    exact Nat.max_le.mpr ⟨h x (.head _), depthAll_le fun y hy => h y (.tail _ hy)⟩
theorem readsAll_of {h : Heap} : ∀ {vs : List Value} {ds : List PyData}, vs.length = ds.length → (∀ (i : Nat) (d : PyData), ds[i]? = some d → ∃ v as, vs[i]? = some v ∧ Reads h v d as) → ∃ as, ReadsAll h vs ds as
  | [], [], _, _ => ⟨_, .nil⟩
  | v :: vs, d :: ds, hl, hh => by
    obtain ⟨v', as, e, r⟩ := hh 0 d rfl
    cases e
    obtain ⟨bs, rs⟩ := readsAll_of (vs := vs) (ds := ds) (Nat.succ.inj hl) fun i d e => hh (i + 1) d e
    exact ⟨_, .cons r rs⟩
  | [], _ :: _, h, _ => by cases h
  | _ :: _, [], h, _ => by cases h
theorem reads_intsA {h : Heap} : ∀ {vs : List Value} {ns : List Int}, IntsAre vs ns → ReadsAll h vs (ns.map PyData.int) []
  | _, _, .nil => .nil
  | _, _, .cons n t r => .cons (as := []) (.int n t) (reads_intsA r)
noncomputable def resData (ring : Bool) (rs : List (List Int)) (K : List Int) (f : Int → Str) : PyData :=
  .list [.bool ring, .list (rs.map fun r => .list (r.map .int)), .list (K.map fun p => .list [.int p, .str (f p)])]
theorem ResAt.reads {h : Heap} {D : Addr} {ring : Bool} {rs : List (List Int)} {K : List Int} {f : Int → Str} (H : ResAt h D ring rs K f) : ∃ as, Reads h (.ref D) (resData ring rs K f) as := by
  obtain ⟨aR, aS, n, vs, n1, us, n2, g, g1, R, g2, S⟩ := H
  obtain ⟨as, r1⟩ := readsAll_of (h := h) (vs := vs.toList) (ds := rs.map fun r => PyData.list (r.map .int)) (by rw [List.length_map]; exact R.1) fun i d e => by
    rw [List.getElem?_map] at e
    obtain ⟨r, e1, rfl⟩ := Option.map_eq_some_iff.mp e
    obtain ⟨a, xs, m, q, g, hi⟩ := R.2 i r e1
    exact ⟨_, _, q, reads_list_at g rfl rfl (reads_intsA hi)⟩
  obtain ⟨bs, r2⟩ := readsAll_of (h := h) (vs := us.toList) (ds := K.map fun p => PyData.list [.int p, .str (f p)]) (by rw [List.length_map]; exact S.1) fun i d e => by
    rw [List.getElem?_map] at e
    obtain ⟨p, e1, rfl⟩ := Option.map_eq_some_iff.mp e
    obtain ⟨a, m, t, t', q, g⟩ := S.2 i p e1
    exact ⟨_, _, q, reads_list_at g rfl rfl (.cons (.int _ _) (.cons (.str _ _) .nil))⟩
  exact ⟨_, reads_list_at g rfl rfl (.cons (.bool _) (.cons (reads_list_at g1 rfl rfl r1) (.cons (reads_list_at g2 rfl rfl r2) .nil)))⟩
theorem resData_shaped {ring : Bool} {rs : List (List Int)} {K : List Int} {f : Int → Str} (hf : ∀ p, PyData.strOk (f p) = true) : SeqAt.shaped (resData ring rs K f) = true := by
  have c1 : ∀ r : List Int, (PyData.list (r.map .int)).canLay0 = true := fun r => canLayAll_of fun x hx => by
    obtain ⟨i, _, rfl⟩ := List.mem_map.mp hx; rfl
  have d1 : ∀ r : List Int, (PyData.list (r.map .int)).depth ≤ 1 := fun r => Nat.succ_le_succ (depthAll_le fun x hx => by
    obtain ⟨i, _, rfl⟩ := List.mem_map.mp hx; exact Nat.le_refl _)
  have c2 : ∀ p, (PyData.list [.int p, .str (f p)]).canLay0 = true := fun p => canLayAll_of fun x hx => by
    rcases List.mem_cons.mp hx with rfl | hx
    · rfl
    · rw [List.mem_singleton.mp hx]; exact hf p
  have d2 : ∀ p, (PyData.list [.int p, .str (f p)]).depth ≤ 1 := fun p => Nat.succ_le_succ (depthAll_le fun x hx => by
    rcases List.mem_cons.mp hx with rfl | hx
    · exact Nat.le_refl _
    · rw [List.mem_singleton.mp hx]; exact Nat.le_refl _)
  have c3 : (PyData.list (rs.map fun r => .list (r.map .int))).canLay0 = true := canLayAll_of fun x hx => by
    obtain ⟨r, _, rfl⟩ := List.mem_map.mp hx; exact c1 r
  have d3 : (PyData.list (rs.map fun r => .list (r.map .int))).depth ≤ 2 := Nat.succ_le_succ (depthAll_le fun x hx => by
    obtain ⟨r, _, rfl⟩ := List.mem_map.mp hx; exact d1 r)
  have c4 : (PyData.list (K.map fun p => .list [.int p, .str (f p)])).canLay0 = true := canLayAll_of fun x hx => by
    obtain ⟨p, _, rfl⟩ := List.mem_map.mp hx; exact c2 p
  have d4 : (PyData.list (K.map fun p => .list [.int p, .str (f p)])).depth ≤ 2 := Nat.succ_le_succ (depthAll_le fun x hx => by
    obtain ⟨p, _, rfl⟩ := List.mem_map.mp hx; exact d2 p)
  have c5 : (resData ring rs K f).canLay0 = true := canLayAll_of fun x hx => by
    rcases List.mem_cons.mp hx with rfl | hx
    · rfl
    rcases List.mem_cons.mp hx with rfl | hx
    · exact c3
    · rw [List.mem_singleton.mp hx]; exact c4
  have d5 : (resData ring rs K f).depth ≤ 3 := Nat.succ_le_succ (depthAll_le fun x hx => by
    rcases List.mem_cons.mp hx with rfl | hx
    · exact Nat.zero_le _
    rcases List.mem_cons.mp hx with rfl | hx
    · exact d3
    · rw [List.mem_singleton.mp hx]; exact d4)
  unfold SeqAt.shaped
  rw [c5, decide_eq_true (Nat.le_trans d5 (by decide))]; rfl
theorem sig_ok (bs : List Bool) : PyData.strOk (Txt.join "" (sgS bs 10)) = true := by
  have := sig_ascii bs
  unfold PyData.strOk
  rw [Array.all_eq_true] at this ⊢
  intro i hi
  exact decide_eq_true (Nat.lt_trans (of_decide_eq_true (this i hi)) (by decide))
theorem eqRes {prog : Program} {w : World} {A : Around} {E : Value → Shared → Prop} {s : Shared} {D1 D2 : Addr} {ring : Bool} {rs : List (List Int)} {K : List Int} {v : Int → List Bool} {Q : Value → Shared → Prop}
    (H1 : ResAt s.heap D1 ring rs K fun p => Txt.join "" (sgS (v p) 10)) (H2 : ResAt s.heap D2 ring rs K fun p => Txt.join "" (sgS (v p) 10)) (hu : A.units + 64 < cLine) (h : Q (.bool true) s) :
    wpAny (model prog w) A (compareOp .Eq (.ref D1) (.ref D2)) Q E s := by
  obtain ⟨as, r1⟩ := H1.reads
  obtain ⟨bs, r2⟩ := H2.reads
  have sh := resData_shaped (ring := ring) (rs := rs) (K := K) (f := fun p => Txt.join "" (sgS (v p) 10)) fun p => sig_ok _
  refine SeqAt.compareEq_shaped r1 r2 sh sh hu ?_
  rw [SeqAt.eqv_refl _ (SeqAt.canLay_of_shaped sh)]
  exact h
theorem two_known {nd : List Nd} {k : Nat} (ok : ∀ q ∈ nd, NodeOk nd.length q.kd q.ts q.bs) (h0 : (nd[k]?).map (·.kd) = some 0) (h1 : (nd[k + 1]?).map (·.kd) = some 0) : 2 ≤ (knF nd nd.length).length := by
  have key : ∀ j : Nat, (nd[j]?).map (·.kd) = some 0 → (j : Int) ∈ knF nd nd.length := fun j h => by
    obtain ⟨q, e, hk⟩ := Option.map_eq_some_iff.mp h
    have hj : j < nd.length := (List.getElem?_eq_some_iff.mp e).1
    have et : tkF nd j = q.ts := by unfold tkF; rw [Int.toNat_natCast, e]; rfl
    have ht : tkF nd j = [] := et.trans ((ok q (List.mem_of_getElem? e)).small (by rw [hk]; decide)).2
    refine kn_mono (s := 1) (by omega) ?_
    show (j : Int) ∈ [] ++ free nd.length (tkF nd) []
    rw [List.nil_append]
    exact mem_free.mpr ⟨mem_ints.mpr (by omega), List.not_mem_nil, fun x hx => by rw [ht] at hx; exact absurd hx List.not_mem_nil⟩
  exact nd_len (l := [(k : Int), ((k + 1 : Nat) : Int)]) (List.nodup_cons.mpr ⟨fun e => by have := List.mem_singleton.mp e; omega, List.nodup_cons.mpr ⟨List.not_mem_nil, List.nodup_nil⟩⟩) fun x hx => by
    rcases List.mem_cons.mp hx with rfl | hx
    · exact key _ h0
    · rw [List.mem_singleton.mp hx]; exact key _ h1
end Mine
end
section
open PySem PySem.W PyProof.Rows PySem.Calls PySem.Spec
set_option Elab.async false
set_option maxRecDepth 100000
set_option maxHeartbeats 4000000
namespace Mine
theorem fillKV : (PySem.Challenge.rw_oc0253_01, Mine.hd.heap_1) = (PySem.Challenge.rw_oc0253_01, Mine.hd.heap_1) := by k_fill; rfl
/-- what stands behind the script's own -/
noncomputable abbrev lawTail : List Int := [4020, 1664, 1957, 13450, 903, 3974, 882]
theorem Nd.Lies.keep {q : Nd} {h h' : Heap} {W : List Addr} (x : q.Lies h) (k : KpB W h h') (ha : q.a ∉ W) (hT : q.T ∉ W) (hR : q.R ∉ W) : q.Lies h' := by
  obtain ⟨⟨t, n, a⟩, ⟨vs, n', b, c⟩, ⟨m, d⟩⟩ := x
  exact ⟨⟨t, n, k _ _ ha a⟩, ⟨vs, n', k _ _ hT b, c⟩, ⟨m, k _ _ hR d⟩⟩
theorem ResAt.keep {h h' : Heap} {D : Addr} {ring : Bool} {rs : List (List Int)} {K : List Int} {f : Int → Str} (H : ResAt h D ring rs K f) (k : Kp h h') : ResAt h' D ring rs K f := by
  obtain ⟨aR, aS, n, vs, n1, us, n2, g, g1, R, g2, S⟩ := H
  exact ⟨aR, aS, n, vs, n1, us, n2, k _ _ g, k _ _ g1, R.up fun a xs n e => k _ _ e, k _ _ g2, S.up fun a xs n e => k _ _ e⟩
theorem lawC {prog : Program} {w : World} {n₀ : Nat} {A : Around} {s : Shared} {Q E : Value → Shared → Prop} (G : Gd w n₀ s.heap) (r : Rm A 25 300) (hs : n₀ ≤ s.heap.objs.size) (hf : A.frames = some []) {aS : Addr} {vs : List Value} {ns : List Int} (hl : s.heap.IsList aS vs.toArray) (hi : IntsAre vs ns) (h63 : ns.length ≤ 63)
    (ret : ∀ h' tk, Kp s.heap h' → Q (.bool true) { s with heap := h', toks := tk }) :
    wpAny (model prog w) A (call (.ref 250) [.ref aS]) Q E s := by
  w_on
  refine wpAny_call ?_
  refine' startC (K := Mine.hd.heap_1 w.params) [] [(Str.ofString "script", .ref aS)] (d := 24) (u := 297) r (fun _ q => q) G hs trivial ?k4 ?k5 ?k7 ?k8 ?k9 ?_ ?c2 ?c3 ?c4
  (case k4 => k_is)
  (case k5 => k_is)
  (case k7 => exact BindsTo.of_eq rfl)
  (case k8 => rfl)
  (case k9 => decide)
  (case c2 => exact rfl)
  (case c3 => exact rfl)
  (case c4 => exact rfl)
  intro A' PQ PE h₁ h₀ L tail mean mg mb tk0 cells rA hQ1 hQ2 hfr Y hcn B F N X TT
  obtain ⟨oK, rfl, hoK⟩ := CellsAre.one Y
  have hoK' : oK.data = .cell none := hoK
  have hfr' := hfr _ hf
  have fK := hcn _ (.head _)
  simp only [List.cons_append, List.nil_append] at N
  have TR := topRead_of TT
  have zL := ltN F.ns.lt
  have zC := ltN (Heap.lt_size (N.get (.head _)))
  w_strict (
  k_steps
  have kp1 : Kp s.heap h₁ := ((B.fin _ _ _ F N fun q hq => tl hq).fresh (W' := []) (List.forall_mem_singleton.mpr (.inr fK))).kp
  refine slice_list F N (hl.at fun o e => kp1 _ o e) .none (.int 6 _) ?_ (hsz := by rw [List.size_toArray, hi.length, sizeLine_eq]; omega)
  intro h2 F2 N2
  have hp := slice_ints_uptoW hi (y := 6) (by decide)
  obtain ⟨us, eus⟩ : ∃ us : List Value, slicePick vs.toArray none (some 6) none = us.toArray := ⟨_, (Array.toArray_toList).symm⟩
  rw [eus] at N2 hp
  dsimp only at N2 hp
  dsimp only
  k_steps
  (rename Fr _ _ _ _ => F2); (rename News _ _ _ _ => N2)
  rename_i lA hA lA1
  obtain ⟨lw, hlw, gA⟩ : ∃ lw : List Value, IntsAre lw lawTail ∧ hA.get? lA = some (W.listOf lw.toArray 0) := ⟨_, .cons 4020 _ (.cons 1664 _ (.cons 1957 _ (.cons 13450 _ (.cons 903 _ (.cons 3974 _ (.cons 882 _ .nil)))))), N2.get (.head _)⟩
  refine add_lists F2 N2 (vs := us) (ws := lw) (IsL.isList (N2.get (tl (.head _)))) (IsL.isList gA) ?_ (by rw [hp.length, hlw.length, List.length_take, sizeLine_eq]; show min 6 ns.length + 7 ≤ _; omega)
  have zD := ltN F2.ns.lt
  have zA := ltN (Heap.lt_size (N2.get (.head _)))
  have zB := ltN (Heap.lt_size (N2.get (tl (.head _))))
  have zK := ltN (Heap.lt_size (N2.get (tl (tl (.head _)))))
  intro hB F3 N3
  clear F2 N2
  dsimp only at N3 ⊢
  generalize hA.objs.size = D at N3 zD zA zB zK ⊢
  have hI : IntsAre (us ++ lw) (ns.take 6 ++ lawTail) := hp.append hlw
  generalize us ++ lw = ws at N3 hI
  have hwl := hI.length
  rw [List.length_append (as := ns.take 6), show lawTail.length = 7 from rfl] at hwl
  have hn6 : (ns.take 6).length ≤ 6 := by rw [List.length_take]; exact Nat.min_le_left _ _
  have tl1 : ∀ p ∈ tail, p.1 ≠ L + 1 := B.off _ (.head _)
  have d1 : D ≠ L + 1 := Nat.ne_of_gt zK
  have d2 := Nat.ne_of_gt (ltN lA1.2.1)
  have d3 := Nat.ne_of_gt (ltN (Nat.lt_succ_of_lt zC))
  refine' storeC F3 N3 rfl rfl rfl ?U hoK' ?_
  (case U => k_updF)
  intro h4 oC F4 N4 hoC
  clear F3 N3
  dsimp only
  k_steps
  have g4 := N4.get (.head _)
  have gC4 := N4.get (tl (tl (tl (.head _))))
  have kp4 : Kp s.heap h4 := ((B.fin _ _ _ F4 N4 fun q hq => tl (tl (tl (tl hq)))).fresh (W' := []) (List.forall_mem_singleton.mpr (.inr fK))).kp
  have zL4 := ltN F4.ns.lt
  have zD4 := ltN (Heap.lt_size g4)
  have fr : ∀ a : Nat, @LE.le Nat _ L a → s.heap.get? a = none := fun a h => Heap.get?_none_of_le (Nat.le_trans B.ls h)
  have lD3 := zK
  have fD : s.heap.get? D = none := fr D (by omega)
  have bL := B.ln
  refine compAV (hb := h4) (cl := [(Str.ofString "numbers", L + 1)]) (by with_unfolding_all rfl) (by with_unfolding_all rfl) rfl (by decide) rfl rfl rfl F4.ns ?_
  dsimp only
  k_steps
  refine call_enumerate_list (IsL.isList g4) ?_
  intro h5 en5 it5 z5 k5
  refine wpAny_pyIter_enum en5 ?_
  have WkE := WalksT.enumerate (prog := prog) (w := w) (A := A') rA.hh (h4.objs.size + 1) h4.objs.size D (Nat.ne_of_gt (Nat.lt_succ_self _)) (Nat.ne_of_lt (Nat.lt_succ_of_lt zD4)) (Nat.ne_of_lt zD4) ws.toArray
  refine CompIs.mk (h4.objs.size + 1) [h4.objs.size + 1, h4.objs.size, D] [h4.objs.size + 1, h4.objs.size] ws.toArray.size _ _ (fun D' C i ys h => h4.objs.size + 1 < C ∧ h4.objs.size + 1 < D' ∧ ∃ nd : List Nd, nd.length = i ∧ ys = nd.map (fun q => Value.ref q.a) ∧ (∀ q ∈ nd, (D' < q.a ∧ D' < q.T ∧ D' < q.R) ∧ C < q.a ∧ C < q.T ∧ C < q.R) ∧ (∀ q ∈ nd, q.Lies h) ∧ (∀ q ∈ nd, NodeOk ws.length q.kd q.ts q.bs) ∧ nd.map (·.kd) = ((ns.take 6 ++ lawTail).take i).map (·.fmod 4))
    (Nx.pair (WP.of WkE) _ _ _) (by rw [sizeLine_eq, List.size_toArray]; omega) ⟨⟨_, en5⟩, it5, (IsL.isList g4).at fun o e => k5 _ o e⟩ (al3 (by rw [z5]; exact Nat.lt_succ_self _) (by rw [z5]; exact Nat.lt_succ_of_lt (Nat.lt_succ_self _)) (by rw [z5]; exact Nat.lt_succ_of_lt (Nat.lt_succ_of_lt zD4))) k5 (by rw [z5]; exact Nat.le_succ_of_le (Nat.le_succ _)) (al2 (Heap.get?_none_of_le (Nat.le_succ _)) (Heap.get?_none_of_le (Nat.le_refl _)))
    (fun D' C q1 q2 => ⟨by rw [z5] at q2; exact q2, by rw [z5] at q1; exact q1, [], rfl, rfl, fun _ h => absurd h List.not_mem_nil, fun _ h => absurd h List.not_mem_nil, fun _ h => absurd h List.not_mem_nil, rfl⟩) ?_ ?_ ?_
  · rintro D' C i ys h h' ⟨r1, r1', nd, r2, r3, r4, r5, r6⟩ kb
    refine ⟨r1, r1', nd, r2, r3, r4, fun q hq => ?_, r6⟩
    obtain ⟨⟨a1, a2, a3⟩, b1, b2, b3⟩ := r4 q hq
    have key : ∀ a : Nat, @LT.lt Nat _ D' a → @LT.lt Nat _ C a → a ∉ D' :: [C] ++ [h4.objs.size + 1, h4.objs.size] := fun a x y => by
      have z1 := ltN r1
      exact nin4 (Nat.ne_of_gt x) (Nat.ne_of_gt y) (Nat.ne_of_gt (Nat.lt_trans z1 y)) (Nat.ne_of_gt (Nat.lt_trans (Nat.lt_succ_self _) (Nat.lt_trans z1 y)))
    exact (r5 q hq).keep kb (key _ a1 b1) (key _ a2 b2) (key _ a3 b3)
  · rintro PT PE D' C i v ys m h tk hC hV hcl gD hPT hi' ⟨T, vals, rfl, ⟨ti, x, hx, rfl⟩, hT⟩ ⟨r1, r1', nd, r2, r3, r4, r5, r6, r7⟩ hys hk hn
    obtain ⟨f, tf, rfl, hf'⟩ := ints_at (i := i) hI ((List.getElem?_toArray ..).symm.trans hx)
    refine asgT rA.hh rfl rfl rfl rfl hT hn fun h6 tk6 hn6 kb6 => ?_
    replace hn6 : h6.Ns C _ := hn6
    have zC4 : (h4.objs.size : Nat) ≤ C := Nat.le_of_lt (Nat.lt_of_succ_lt r1)
    have nC : ∀ b o, h4.get? b = some o → (b : Nat) ≠ C := fun b o e => Nat.ne_of_lt (Nat.lt_of_lt_of_le (Heap.lt_size e) zC4)
    have K6 : Kp h4 h6 := fun b o e => kb6 b o (nin1 (nC b o e)) (hk b o e)
    have G6 := G.keep (kp4.trans K6)
    refine rebaseFK [(L + 1, oC), (D, W.listOf ws.toArray 0)] G (kp4.trans K6) hn6 (Nat.le_trans bL (Nat.le_trans (Nat.le_of_lt zL4) zC4)) (al2 ⟨K6 _ _ gC4, nC _ _ gC4, .inr fK⟩ ⟨K6 _ _ g4, nC _ _ g4, .inr fD⟩) fun h₀9 tail9 F9 N9 off9 lt9 X9 mean9 mg9 mb9 T9 hid9 bk9 => ?_
    simp only [List.cons_append, List.nil_append] at N9 F9
    have TR9 := topRead_of T9
    clear F4 N4
    refine test0 ?_
    dsimp only
    k_steps
    refine call_len_list (items := ws.toArray) ((IsL.isList g4).at fun o e => K6 _ o e) (by rw [List.size_toArray]; omega) ?_
    dsimp only
    k_steps
    have hs6 : n₀ ≤ h6.objs.size := Nat.le_trans bL (Nat.le_trans (Nat.le_of_lt zL4) (Nat.le_trans zC4 (Nat.le_of_lt hn6.lt)))
    refine nodeC (n₀ := n₀) (many := ws.length) (place := i) G6 (rA.less (by omega) (by omega)) hs6 (by omega) hi' ?_
    intro h8 tk8 Dn nn Tn nTn Rn nRn kd tt vs8 ts bs kp8 zDn zTn zRn g8 gT8 hts gR8 ekd hok
    have zC6 := ltN hn6.lt
    have zD6 : @LT.lt Nat _ D' h6.objs.size := ltN (Heap.lt_size (kb6 _ _ (nin1 fun z => ns_noList hn _ _ (z ▸ gD)) gD))
    have hni : nd.length = i := r2
    refine hPT _ _ _ _ (kbCV (kb6.trans kp8.b)) (hn6.keeps kp8) (clsNil rfl) ⟨r1, r1', nd ++ [⟨Dn, Tn, Rn, kd, ts, bs⟩], by rw [List.length_append, r2]; rfl, by rw [List.map_append, r3]; rfl, fun q hq => ?_, fun q hq => ?_, fun q hq => ?_, ?_⟩ (by rw [List.length_append]; exact Nat.succ_le_succ hys)
    · rcases List.mem_append.mp hq with hq | hq
      · exact r4 q hq
      · rw [List.mem_singleton.mp hq]
        exact ⟨⟨Nat.lt_of_lt_of_le zD6 zDn, Nat.lt_of_lt_of_le zD6 zTn, Nat.lt_of_lt_of_le zD6 zRn⟩, Nat.lt_of_lt_of_le zC6 zDn, Nat.lt_of_lt_of_le zC6 zTn, Nat.lt_of_lt_of_le zC6 zRn⟩
    · rcases List.mem_append.mp hq with hq | hq
      · obtain ⟨_, b1, b2, b3⟩ := r4 q hq
        exact (r5 q hq).keep (kb6.trans kp8.b) (nin1 (Nat.ne_of_gt b1)) (nin1 (Nat.ne_of_gt b2)) (nin1 (Nat.ne_of_gt b3))
      · rw [List.mem_singleton.mp hq]
        exact ⟨⟨_, _, g8⟩, ⟨_, _, gT8, hts⟩, _, gR8⟩
    · rcases List.mem_append.mp hq with hq | hq
      · exact r6 q hq
      · rw [List.mem_singleton.mp hq]; exact hok
    · have e1 : (ns.take 6 ++ lawTail)[i]? = some f := hf'
      rw [List.take_add_one, e1, List.map_append, List.map_append, r7, ekd]; rfl
  · rintro D' C ys h' tk n' hk hD zD gD ⟨r1, r1', nd, r2, r3, r4, r5, r6, r7⟩ hys hDC zC' hCn
    refine ⟨hk, zC', fun h'' tk' hn'' kb'' => ?_⟩
    replace hn'' : h''.Ns L _ := hn''
    have zLC : (L : Nat) < C := Nat.lt_of_lt_of_le zL4 zC'
    have K1 : Kp s.heap h'' := kp_new (kp4.trans hk) kb'' (al2 B.lf (fr C (Nat.le_of_lt zLC)))
    have nDL : D' ≠ L := Nat.ne_of_gt (Nat.lt_of_lt_of_le zL4 zD)
    have enl : nd.length = ws.length := by rw [r2, List.size_toArray]
    have H : NodesAt h'' D' nd := ⟨⟨n', by rw [← r3]; exact kb'' _ _ (nin2 nDL hDC) gD⟩, fun q hq => by
      obtain ⟨⟨a1, a2, a3⟩, b1, b2, b3⟩ := r4 q hq
      have key : ∀ a : Nat, @LT.lt Nat _ C a → a ∉ [L, C] := fun a x => nin2 (Nat.ne_of_gt (Nat.lt_trans zLC x)) (Nat.ne_of_gt x)
      exact (r5 q hq).keep kb'' (key _ b1) (key _ b2) (key _ b3), fun q hq => enl ▸ r6 q hq, by omega⟩
    have hkd : ∀ j : Nat, (nd[j]?).map (·.kd) = ((ns.take 6 ++ lawTail)[j]?).map (·.fmod 4) := fun j => by
      have e := congrArg (fun l : List Int => l[j]?) r7
      rw [List.getElem?_map, List.getElem?_map, List.take_of_length_le (by rw [List.size_toArray, hwl, List.length_append]; exact Nat.le_refl _)] at e
      exact e
    have h2K : 2 ≤ (knF nd nd.length).length := two_known (k := (ns.take 6).length) H.ok (by rw [hkd, List.getElem?_append_right (Nat.le_refl _), Nat.sub_self]; rfl) (by rw [hkd, List.getElem?_append_right (Nat.le_succ _), show (ns.take 6).length + 1 - (ns.take 6).length = 1 from Nat.add_sub_cancel_left ..]; rfl)
    have Fs : Frs A [] n₀ s.heap := ⟨hf, trivial, fun _ h => absurd h List.not_mem_nil⟩
    have Fs1 := Fs.push (fr := []) (KpS.of K1) hfr' rfl rfl hn'' bL
    have G1 := G.keep K1
    have hs1 : n₀ ≤ h''.objs.size := Nat.le_trans bL (Nat.le_of_lt hn''.lt)
    refine rebaseFK [] G K1 hn'' bL (fun _ h => absurd h List.not_mem_nil) fun h₀9 tail9 F9 N9 off9 lt9 X9 mean9 mg9 mb9 T9 hid9 bk9 => ?_
    simp only [List.nil_append] at N9 F9
    have TR9 := topRead_of T9
    clear F4 N4 X TT TR
    dsimp only
    k_steps
    refine runC (n₀ := n₀) G1 (rA.less (by omega) (by omega)) hs1 Fs1 H (fun a ha xs n e => ?_) h2K ?_
    · obtain rfl : a = L := List.mem_singleton.mp ha
      exact ns_noList hn'' xs n e
    intro h7 tk7 D1 kf7 sl7 G7 R7
    have hn7 : h7.Ns L _ := ns_slots hn'' fun o e => by
      obtain ⟨o', es, ep, ho, hd, _⟩ := hn''.noRefKey
      rw [e] at ho
      cases ho
      exact sl7 L o (fun vs q => by rw [hd] at q; cases q) e
    have kf7' : KpB [L] h'' h7 := fun b o hb e => kf7 b o hb e
    have H7 : NodesAt h7 D' nd := H.move fun a xs n _ e => kf7' a _ (nin1 fun z => ns_noList hn'' _ _ (z ▸ e)) e
    have hs7 : n₀ ≤ h7.objs.size := Nat.le_trans bL (Nat.le_of_lt hn7.lt)
    clear F9 N9 X9 T9 TR9
    refine rebaseFK [] G7 (Kp.refl _) hn7 bL (fun _ h => absurd h List.not_mem_nil) fun h₀9 tail9 F9 N9 off9 lt9 X9 mean9 mg9 mb9 T9 hid9 bk9 => ?_
    simp only [List.nil_append] at N9 F9
    have TR9 := topRead_of T9
    dsimp only
    k_steps
    refine dueC (n₀ := n₀) G7 (rA.less (by omega) (by omega)) hs7 H7 h2K ?_
    intro h8 tk8 D2 kp8 R8
    refine eqRes (R7.keep kp8) R8 (by have := rA.hu; omega) ?_
    exact hQ1 _ _ (ret _ _ fun a o e => kp8 a o (kf7' a o (nin1 (Nat.ne_of_lt (Nat.lt_of_lt_of_le (Heap.lt_size e) B.ls))) (K1 a o e))))
end Mine
end
section
open PySem PySem.W PyProof.Rows PySem.Calls PySem.Spec
set_option Elab.async false
set_option maxRecDepth 100000
set_option maxHeartbeats 8000000
namespace Mine
theorem topL : PySem.Challenge.rw_oc0253_01.Holds := by
  w_on
  refine Mine.hd ?_
  w_strict (
  intro w s₀ s₁ mg mb G Y fa o pm cd doc dV kV ho hd hcd hD hmg hg args vals as hpre hlay hrd hwl hlo
  have KX := kIn_of Y
  refine Ground.open G ?_
  intro T B D TE TW
  wrow_args hpre hlay hrd hwl hlo
  rename_i hL _ _ _ hI _ hcond _
  have e0 : mg (Str.ofString "law") = some (.ref 250) := mg_of KX T.g (by first | rfl | (with_unfolding_all rfl) | decide +kernel)
  have e1 : fa = 250 := by
    have e2 : mg (Str.ofString "law") = some (.ref fa) := hmg
    exact Value.ref.inj (Option.some.inj (e2.symm.trans e0))
  subst e1
  refine lawC (n₀ := s₁.heap.objs.size) ⟨s₁.heap, ⟨Nat.le_refl _, KX, _, _, _, T⟩, Kp.refl _⟩ ⟨rfl, by decide, by decide⟩ (Nat.le_refl _) rfl hL hI (by omega) fun h' tk kp => ?_
  refine GoodW.toG ⟨.inl ⟨.bool true, .bool true, [], rfl, ?_, ?_, ?_, ?_⟩, kp, rfl, hg⟩
  · exact fun _ => rfl
  · exact .bool _
  · wrow_post
  · exact fun _ => ⟨List.nodup_nil, fun _ h => absurd h List.not_mem_nil⟩)
end Mine
end
end
theorem PySem.Challenge.cw_oc0253_01_holds : PySem.Challenge.rw_oc0253_01.Holds :=
  Mine.topL

import PyProof.Rows.All
import Wide.All
import OpenK.AllK
import Wide.FinOn
import Lean
import PySem.Challenge.RW_ph0059_01
open PySem PySem.W PyProof.Rows
set_option Elab.async false
set_option maxRecDepth 100000
set_option maxHeartbeats 8000000
set_option genInjectivity false
set_option genSizeOfSpec false
set_option linter.all false
namespace Mine
open_top hd for PySem.Challenge.rw_ph0059_01
end Mine

section
namespace Mine
theorem om0 {i0 : Int} {n1 : Nat} (h0 : (¬ (i0 ≤ ((n1 : Nat) : Int)))) : (((n1 : Nat) : Int) ≤ i0) := Int.le_of_lt (Int.not_le.mp h0)
theorem om1 {i0 : Int} {n1 : Nat} {n2 : Nat} (h0 : ((0 : Int) ≤ i0)) (h1 : (¬ (i0 ≤ ((n1 : Nat) : Int)))) (h2 : (n2 = n1)) : (n2 ≤ (Int.toNat i0)) := by subst h2; exact (Int.le_toNat h0).mpr (Int.le_of_lt (Int.not_le.mp h1))
theorem om2 {i0 : Int} {n1 : Nat} (h0 : ((0 : Int) ≤ i0)) (h1 : (i0 < ((n1 : Nat) : Int))) : ((Int.toNat i0) < n1) := (Int.toNat_lt h0).mpr h1
theorem om3 {n0 : Nat} {n1 : Nat} (h0 : (n0 ≤ n1)) : (((2 : Int) * (((min n0 n1) : Nat) : Int)) = ((2 : Int) * ((n0 : Nat) : Int))) := by omega
theorem om4 {n0 : Nat} {n1 : Nat} (h0 : (n0 < n1)) : (n0 ≤ n1) := Nat.le_of_lt h0
theorem om5 {n0 : Nat} {n1 : Nat} (h0 : (n0 < n1)) : ((n0 + (1 : Nat)) ≤ n1) := h0
theorem om6 {n0 : Nat} : ((0 : Int) ≤ ((2 : Int) * ((n0 : Nat) : Int))) := by omega
theorem om7 {i0 : Int} (h0 : ((0 : Int) ≤ i0)) : ((0 : Int) ≤ (i0 + (2 : Int))) := Int.le_trans h0 (Int.le_add_of_nonneg_right (by decide))
theorem om8 {n0 : Nat} : ((((2 : Int) * ((n0 : Nat) : Int)) ≤ ((2 : Int) * ((n0 : Nat) : Int))) ∧ (((2 : Int) * ((n0 : Nat) : Int)) ≤ ((2 : Int) * ((n0 : Nat) : Int)))) := ⟨Int.le_refl _, Int.le_refl _⟩
theorem om9 {i0 : Int} {i1 : Int} {i2 : Int} (h0 : ((i0 ≤ i1) ∧ (i1 ≤ i0))) (h1 : (i2 ≤ (i0 + (2 : Int)))) : (i2 ≤ (i1 + (2 : Int))) := Int.le_trans h1 (Int.add_le_add_right h0.1 2)
theorem om10 {i0 : Int} {i1 : Int} {i2 : Int} (h0 : ((i0 ≤ i1) ∧ (i1 ≤ i0))) (h1 : (i2 ≤ (i1 + (2 : Int)))) : (i2 ≤ (i0 + (2 : Int))) := Int.le_trans h1 (Int.add_le_add_right h0.2 2)
theorem om11 {i0 : Int} : ((i0 - (2 : Int)) ≤ (i0 + (2 : Int))) := by omega
theorem om12 {i0 : Int} {i1 : Int} {i2 : Int} (h0 : (i0 ≤ (i1 + (2 : Int)))) (h1 : ((0 : Int) ≤ i2)) : ((i0 - (2 : Int)) ≤ (i1 + i2)) := by omega
theorem om13 {i0 : Int} {i1 : Int} (h0 : ((i0 - (2 : Int)) ≤ i1)) : (i0 ≤ (i1 + (2 : Int))) := by omega
theorem om14 {i0 : Int} {i1 : Int} {n2 : Nat} {i3 : Int} (h0 : (i0 ≤ (i1 + (2 : Int)))) (h1 : (i1 ≤ (((2 : Int) * ((n2 : Nat) : Int)) + i3))) : (i0 ≤ (((2 : Int) * (((n2 + (1 : Nat)) : Nat) : Int)) + i3)) := by omega
theorem om15 {i0 : Int} {i1 : Int} {i2 : Int} {i3 : Int} {i4 : Int} (h0 : ((i0 + i1) ≤ i2)) (h1 : (i3 = (i2 + (2 : Int)))) (h2 : (i4 ≤ (i0 + (2 : Int)))) : ((i4 + i1) ≤ i3) := by omega
theorem om16 {i0 : Int} {i1 : Int} {i2 : Int} {i3 : Int} {i4 : Int} {i5 : Int} (h0 : ((i0 + i1) ≤ i2)) (h1 : (i3 = (i2 + i4))) (h2 : (i5 ≤ (i0 + i4))) : ((i5 + i1) ≤ i3) := by omega
theorem om17 {i0 : Int} (h0 : (i0 ≤ (2 : Int))) : (i0 ≤ (4 : Int)) := Int.le_trans h0 (by decide)
theorem om18 {n0 : Nat} {n1 : Nat} (h0 : (n0 ≤ n1)) : (((n1 + ((0 : Nat) + (1 : Nat))) - (n0 + (1 : Nat))) = (n1 - n0)) := Nat.add_sub_add_right n1 1 n0
theorem om19 {n0 : Nat} {n1 : Nat} (h0 : (n0 ≤ n1)) : ((n1 - n0) ≤ n1) := Nat.sub_le n1 n0
theorem om20 {n0 : Nat} {n1 : Nat} (h0 : ((n0 + (1 : Nat)) ≤ (n1 + ((0 : Nat) + (1 : Nat))))) : (n0 ≤ n1) := Nat.le_of_succ_le_succ h0
theorem om21 {n0 : Nat} {n1 : Nat} {n2 : Nat} (h0 : ((n0 + (n1 + (1 : Nat))) = n2)) : (n0 < n2) := h0 ▸ Nat.lt_add_of_pos_right (Nat.succ_pos _)
theorem om22 {n0 : Nat} {n1 : Nat} {n2 : Nat} (h0 : ((n0 + (n1 + (1 : Nat))) = n2)) : (((n0 + (1 : Nat)) + n1) = n2) := by rw [← h0, Nat.add_assoc, Nat.add_comm 1 n1]
theorem om23 {n0 : Nat} : (((0 : Nat) + n0) = n0) := Nat.zero_add _
theorem om24 {i0 : Int} {n1 : Nat} (h0 : (i0 = ((0 : Int) + ((n1 : Nat) : Int)))) : ((0 : Int) ≤ i0) := by rw [h0, Int.zero_add]; exact Int.natCast_nonneg _
theorem om25 {i0 : Int} {n1 : Nat} (h0 : (i0 = ((0 : Int) + ((n1 : Nat) : Int)))) : ((0 : Int) ≤ (i0 + (1 : Int))) := by rw [h0, Int.zero_add]; exact Int.natCast_nonneg (n1 + 1)
theorem om26 {n0 : Nat} {n1 : Nat} (h0 : (n0 = n1)) (h1 : (n1 ≤ (2 : Nat))) (h2 : ((1 : Nat) ≤ n0)) : ((0 : Int) < ((n0 : Nat) : Int)) := by omega
theorem om27 {n0 : Nat} (h0 : (n0 ≤ (6 : Nat))) : (n0 ≤ (16777216 : Nat)) := Nat.le_trans h0 (by decide)
theorem om28 {n0 : Nat} {n1 : Nat} (h0 : ((n0 + ((0 : Nat) + (1 : Nat))) = n1)) : (n0 < n1) := h0 ▸ Nat.lt_succ_self _
theorem om29 {n0 : Nat} {n1 : Nat} {n2 : Nat} (h0 : ((n0 + ((n1 + (1 : Nat)) + (1 : Nat))) = n2)) : (n0 < n2) := h0 ▸ Nat.lt_add_of_pos_right (Nat.succ_pos _)
theorem om30 {n0 : Nat} : ((0 : Int) ≤ ((n0 : Nat) : Int)) := Int.natCast_nonneg _
theorem om31 {n0 : Nat} {n1 : Nat} {n2 : Nat} (h0 : (n0 ≤ (5 : Nat))) (h1 : (n1 < (n0 + (2 : Nat)))) (h2 : ((n1 + n2) ≤ n0)) : (n2 ≤ (5 : Nat)) := by omega
theorem om32 {i0 : Int} (h0 : ((1 : Int) ≤ i0)) : ((0 : Int) ≤ i0) := Int.le_trans (by decide) h0
theorem om33 {i0 : Int} {n1 : Nat} (h0 : ((1 : Int) ≤ i0)) (h1 : ((1 : Nat) ≤ n1)) : (((n1 - (Int.toNat i0)) + (1 : Nat)) ≤ n1) := Nat.succ_le_of_lt (Nat.sub_lt h1 (Int.lt_toNat.mpr h0))
theorem om34 {i0 : Int} (h0 : (i0 ≤ (0 : Int))) : ((i0 - (1 : Int)) < (0 : Int)) := by omega
theorem om35 {i0 : Int} (h0 : (i0 ≤ (0 : Int))) : ((i0 - (1 : Int)) ≤ (0 : Int)) := by omega
theorem om36 {i0 : Int} {i1 : Int} : ((i0 + i1) ≤ (i1 + i0)) := Int.le_of_eq (Int.add_comm ..)
theorem om37 {i0 : Int} {i1 : Int} {i2 : Int} {i3 : Int} {i4 : Int} {i5 : Int} (h0 : (i0 = (i1 + (2 : Int)))) (h1 : ((i2 + i3) ≤ (i4 + i1))) (h2 : (i5 ≤ (i3 + (2 : Int)))) : ((i2 + i5) ≤ (i4 + i0)) := by omega
theorem om38 {n0 : Nat} {n1 : Nat} {n2 : Nat} {n3 : Nat} (h0 : ((((n0 + (1 : Nat)) + ((2 : Nat) * (n1 + (1 : Nat)))) + ((3 : Nat) * (n2 + (1 : Nat)))) ≤ (n3 + (1 : Nat)))) : (((n0 + ((2 : Nat) * (n1 + (1 : Nat)))) + ((3 : Nat) * (n2 + (1 : Nat)))) ≤ n3) := by omega
theorem om39 {i0 : Int} {i1 : Int} {i2 : Int} {i3 : Int} {i4 : Int} {i5 : Int} {i6 : Int} (h0 : (i0 = (i1 + (2 : Int)))) (h1 : (i2 = (i3 + (2 : Int)))) (h2 : ((i4 + i5) ≤ (i3 + i0))) (h3 : (i6 ≤ (i4 + (2 : Int)))) : ((i6 + i5) ≤ (i2 + i0)) := by omega
theorem om40 {i0 : Int} {i1 : Int} {i2 : Int} {i3 : Int} {i4 : Int} {i5 : Int} {i6 : Int} {i7 : Int} (h0 : (i0 = (i1 + (2 : Int)))) (h1 : (i2 = (i3 + (2 : Int)))) (h2 : ((i4 + i5) ≤ (i3 + i1))) (h3 : (i6 ≤ (i4 + (2 : Int)))) (h4 : (i7 ≤ (i5 + (2 : Int)))) : ((i6 + i7) ≤ (i2 + i0)) := by omega
theorem om41 {i0 : Int} {i1 : Int} {i2 : Int} {i3 : Int} {i4 : Int} {i5 : Int} {i6 : Int} {i7 : Int} {i8 : Int} (h0 : (i0 = (i1 + (2 : Int)))) (h1 : (i2 = (i3 + i4))) (h2 : ((i5 + i6) ≤ (i3 + i1))) (h3 : (i7 ≤ (i5 + i4))) (h4 : (i8 ≤ (i6 + (2 : Int)))) : ((i7 + i8) ≤ (i2 + i0)) := by omega
theorem om42 {i0 : Int} {i1 : Int} {i2 : Int} {i3 : Int} {i4 : Int} {i5 : Int} {i6 : Int} {i7 : Int} (h0 : (i0 = (i1 + i2))) (h1 : (i3 = (i4 + (2 : Int)))) (h2 : ((i5 + i6) ≤ (i4 + i0))) (h3 : (i7 ≤ (i5 + (2 : Int)))) : ((i7 + i6) ≤ (i3 + i0)) := by omega
theorem om43 {i0 : Int} {i1 : Int} {i2 : Int} {i3 : Int} {i4 : Int} {i5 : Int} {i6 : Int} {i7 : Int} {i8 : Int} (h0 : (i0 = (i1 + i2))) (h1 : (i3 = (i4 + (2 : Int)))) (h2 : ((i5 + i6) ≤ (i4 + i1))) (h3 : (i7 ≤ (i5 + (2 : Int)))) (h4 : (i8 ≤ (i6 + i2))) : ((i7 + i8) ≤ (i3 + i0)) := by omega
theorem om44 {i0 : Int} {i1 : Int} {i2 : Int} {i3 : Int} {i4 : Int} {i5 : Int} {i6 : Int} {i7 : Int} {i8 : Int} {i9 : Int} (h0 : (i0 = (i1 + i2))) (h1 : (i3 = (i4 + i5))) (h2 : ((i6 + i7) ≤ (i4 + i1))) (h3 : (i8 ≤ (i6 + i5))) (h4 : (i9 ≤ (i7 + i2))) : ((i8 + i9) ≤ (i3 + i0)) := by omega
theorem om45 {n0 : Nat} {n1 : Nat} : ((n0 + (n1 + (1 : Nat))) = ((n0 + n1) + (1 : Nat))) := (Nat.add_assoc n0 n1 1).symm
theorem om46 {i0 : Int} {i1 : Int} {i2 : Int} : ((i0 + (i1 + i2)) = ((i0 + i1) + i2)) := (Int.add_assoc ..).symm
theorem om47 {n0 : Nat} {n1 : Nat} {n2 : Nat} (h0 : (n0 ≤ n1)) (h1 : (n2 < n0)) : (n2 ≤ n1) := Nat.le_of_lt (Nat.lt_of_lt_of_le h1 h0)
theorem om48 {i0 : Int} {i1 : Int} {i2 : Int} {i3 : Int} {i4 : Int} {i5 : Int} (h0 : (i0 ≤ (i1 - i2))) (h1 : (i3 ≤ ((i0 + i4) - i5))) : (i3 ≤ ((i1 + (i4 + (0 : Int))) - (i2 + i5))) := by omega
theorem om49 {n0 : Nat} {n1 : Nat} {n2 : Nat} {n3 : Nat} (h0 : (n0 = (n1 + (1 : Nat)))) (h1 : ((n2 + n3) = (n1 + (1 : Nat)))) : (((((n1 + (1 : Nat)) : Nat) : Int) - ((n2 : Nat) : Int)) = ((n3 : Nat) : Int)) := by omega
theorem om50 {n0 : Nat} {n1 : Nat} {n2 : Nat} {n3 : Nat} (h0 : (n0 = (n1 + (1 : Nat)))) (h1 : ((n2 + n3) = (n1 + (1 : Nat)))) : ((((n1 + (1 : Nat)) : Nat) : Int) = (((n2 : Nat) : Int) + ((n3 : Nat) : Int))) := by omega
theorem om51 {n0 : Nat} (h0 : ((3 : Nat) ≤ n0)) (h1 : (n0 ≤ (5 : Nat))) : (n0 < (64 : Nat)) := Nat.lt_of_le_of_lt h1 (by decide)
theorem om52 {n0 : Nat} (h0 : ((3 : Nat) ≤ n0)) (h1 : (n0 ≤ (5 : Nat))) : ((-((2 : Int) ^ (62 : Nat))) ≤ (((n0 : Nat) : Int) + (1 : Int))) := by omega
theorem om53 {n0 : Nat} (h0 : ((3 : Nat) ≤ n0)) (h1 : (n0 ≤ (5 : Nat))) : ((((n0 : Nat) : Int) + (1 : Int)) < ((2 : Int) ^ (62 : Nat))) := by omega
theorem om54 {n0 : Nat} {n1 : Nat} : (((n0 : Nat) : Int) ≤ ((((n0 : Nat) : Int) + (1 : Int)) + ((n1 : Nat) : Int))) := by omega
theorem om55 {n0 : Nat} {n1 : Nat} {n2 : Nat} (h0 : (n0 < n1)) (h1 : (n2 < (n1 - n0))) : (((((n0 : Nat) : Int) + (1 : Int)) + ((n2 : Nat) : Int)) ≤ ((n1 : Nat) : Int)) := by omega
theorem om56 {n0 : Nat} : ((Int.toNat ((n0 : Nat) : Int)) = n0) := Int.toNat_natCast _
theorem om57 {i0 : Int} {i1 : Int} (h0 : (((0 : Int) ≤ i0) ∧ (i0 < (3 : Int)))) : (i1 ≤ (((i1 + i0) - (1 : Int)) + (1 : Int))) := by omega
theorem om58 {n0 : Nat} {n1 : Nat} {i2 : Int} {i3 : Int} (h0 : (n0 = (2 : Nat))) (h1 : (n1 ≤ (5 : Nat))) (h2 : (((0 : Int) ≤ i2) ∧ (i2 < (3 : Int)))) (h3 : (i3 ≤ (((2 : Int) * ((n0 : Nat) : Int)) + ((2 : Int) * ((n1 : Nat) : Int))))) : (((i3 + i2) - (1 : Int)) ≤ (100 : Int)) := by omega
theorem om59 {n0 : Nat} {n1 : Nat} (h0 : (n0 = (n1 + (1 : Nat)))) : ((-((2 : Int) ^ (62 : Nat))) ≤ ((1 : Int) + ((n1 : Nat) : Int))) := by omega
theorem om60 {n0 : Nat} {n1 : Nat} {i2 : Int} {n3 : Nat} {n4 : Nat} {n5 : Nat} (h0 : (n0 = (n1 + (1 : Nat)))) (h1 : (i2 < ((0 : Int) + (((Int.toNat (((1 : Int) + ((n1 : Nat) : Int)) - (0 : Int))) : Nat) : Int)))) (h2 : ((n3 ≠ n4) ∧ ((n3 ≠ n5) ∧ (n4 ≠ n5)))) : (i2 < ((1 : Int) + ((n1 : Nat) : Int))) := by rw [Int.zero_add, Int.sub_zero, Int.toNat_of_nonneg (show 0 ≤ (1 : Int) + (n1 : Int) from Int.natCast_nonneg (1 + n1))] at h1; exact h1
theorem om61 {n0 : Nat} {n1 : Nat} {n2 : Nat} (h0 : (n0 < n1)) (h1 : (n2 = (n0 + (1 : Nat)))) : (((1 : Nat) + n0) ≤ n1) := by omega
theorem om62 {n0 : Nat} : (((((1 : Nat) + n0) : Nat) : Int) = ((1 : Int) + ((n0 : Nat) : Int))) := rfl
theorem om63 {n0 : Nat} {n1 : Nat} (h0 : (n0 = (n1 + (1 : Nat)))) : ((0 : Nat) < (Int.toNat (((1 : Int) + ((n1 : Nat) : Int)) - (0 : Int)))) := by rw [Int.sub_zero]; show 0 < Int.toNat ((1 + n1 : Nat) : Int); rw [Int.toNat_natCast, Nat.add_comm]; exact Nat.succ_pos _
theorem om64 {n0 : Nat} {n1 : Nat} {n2 : Nat} (h0 : (n0 = (n1 + (1 : Nat)))) (h1 : (n2 ≤ n1)) : (n2 < ((1 : Nat) + n1)) := by omega
theorem om65 {n0 : Nat} {n1 : Nat} {n2 : Nat} (h0 : (n0 = (n1 + (1 : Nat)))) (h1 : (n2 ≤ n1)) : (((n2 : Nat) : Int) ≤ ((1 : Int) + ((n1 : Nat) : Int))) := by omega
theorem om66 {n0 : Nat} {n1 : Nat} {n2 : Nat} (h0 : (n0 = (n1 + (1 : Nat)))) (h1 : (n2 ≤ n1)) : ((Int.toNat (((1 : Int) + ((n1 : Nat) : Int)) - ((n2 : Nat) : Int))) = ((n1 + (1 : Nat)) - n2)) := by rw [Int.add_comm]; exact Int.toNat_sub (n1 + 1) n2
theorem om67 {n0 : Nat} {n1 : Nat} {n2 : Nat} (h0 : (n0 = (n1 + (1 : Nat)))) (h1 : (n2 ≤ n1)) : (n2 < (Int.toNat (((1 : Int) + ((n1 : Nat) : Int)) - (0 : Int)))) := by rw [Int.sub_zero]; show n2 < Int.toNat ((1 + n1 : Nat) : Int); rw [Int.toNat_natCast, Nat.add_comm]; exact Nat.lt_succ_of_le h1
theorem om68 {n0 : Nat} {n1 : Nat} {n2 : Nat} {i3 : Int} (h0 : (n0 = (n1 + (1 : Nat)))) (h1 : (((0 : Int) + ((n2 : Nat) : Int)) = i3)) (h2 : (n2 < (Int.toNat (((1 : Int) + ((n1 : Nat) : Int)) - (0 : Int))))) : (n2 ≤ n1) := by rw [Int.sub_zero] at h2; exact Nat.le_of_lt_succ (Nat.lt_of_lt_of_eq h2 ((Int.toNat_natCast (1 + n1)).trans (Nat.add_comm ..)))
theorem om69 {i0 : Int} {n1 : Nat} (h0 : (i0 = ((0 : Int) + ((n1 : Nat) : Int)))) : ((Int.toNat i0) = n1) := by rw [h0, Int.zero_add]; exact Int.toNat_natCast _
theorem om70 {i0 : Int} {n1 : Nat} (h0 : (i0 = ((0 : Int) + ((n1 : Nat) : Int)))) : ((i0 * (2 : Int)) = ((2 : Int) * ((n1 : Nat) : Int))) := by omega
theorem om71 {n0 : Nat} (h0 : ((1 : Nat) ≤ n0)) : ((Int.toNat (((n0 : Nat) : Int) - (0 : Int))) = n0) := by rw [Int.sub_zero]; exact Int.toNat_natCast _
theorem om72 {n0 : Nat} {n1 : Nat} (h0 : (n0 < n1)) : (((n1 + (1 : Nat)) - (n0 + (1 : Nat))) < ((n1 + (1 : Nat)) - n0)) := by rw [Nat.add_sub_add_right, Nat.succ_sub (Nat.le_of_lt h0)]; exact Nat.lt_succ_self _
theorem om73 {i0 : Int} {n1 : Nat} {n2 : Nat} (h0 : (i0 = ((0 : Int) + ((n1 : Nat) : Int)))) (h1 : (i0 < ((n2 : Nat) : Int))) (h2 : ((Int.toNat i0) = n1)) : (n1 < n2) := by rw [h0, Int.zero_add] at h1; exact Int.ofNat_lt.mp h1
theorem om74 {n0 : Nat} (h0 : ((1 : Nat) ≤ n0)) (h1 : ((Int.toNat (((n0 : Nat) : Int) - (0 : Int))) = n0)) : ((0 : Nat) < n0) := h0
theorem om75 {n0 : Nat} (h0 : ((1 : Nat) ≤ n0)) (h1 : ((Int.toNat (((n0 : Nat) : Int) - (0 : Int))) = n0)) : (¬ (n0 = (0 : Nat))) := Nat.ne_of_gt h0
theorem om76 {n0 : Nat} {n1 : Nat} (h0 : (n0 ≥ n1)) (h1 : ((n0 - n1) = (0 : Nat))) : (n0 = n1) := Nat.le_antisymm (Nat.le_of_sub_eq_zero h1) h0
theorem om77 {n0 : Nat} {i1 : Int} {n2 : Nat} (h0 : ((1 : Nat) ≤ n0)) (h1 : (i1 = ((0 : Int) + ((n2 : Nat) : Int)))) (h2 : (n2 < (Int.toNat (((n0 : Nat) : Int) - (0 : Int))))) : (i1 < ((n0 : Nat) : Int)) := by rw [Int.sub_zero, Int.toNat_natCast] at h2; rw [h1, Int.zero_add]; exact Int.ofNat_lt.mpr h2
theorem om78 {n0 : Nat} (h0 : ((3 : Nat) ≤ n0)) (h1 : (n0 ≤ (5 : Nat))) : ((n0 - (1 : Nat)) ≤ (4 : Nat)) := by omega
theorem om79 {n0 : Nat} (h0 : ((3 : Nat) ≤ n0)) (h1 : (n0 ≤ (5 : Nat))) : ((1 : Nat) ≤ n0) := Nat.le_trans (by decide) h0
theorem om80 {n0 : Nat} {n1 : Nat} {n2 : Nat} (h0 : ((3 : Nat) ≤ n0)) (h1 : (n0 ≤ (5 : Nat))) (h2 : (((1 : Nat) ≤ n1) ∧ (n1 ≤ ((n0 - (1 : Nat)) + (1 : Nat))))) (h3 : (n2 ≤ (n1 + (2 : Nat)))) : (n2 ≤ (7 : Nat)) := by omega
theorem om81 {n0 : Nat} {n1 : Nat} {n2 : Nat} (h0 : ((3 : Nat) ≤ n0)) (h1 : (n0 ≤ (5 : Nat))) (h2 : (((1 : Nat) ≤ n1) ∧ (n1 ≤ ((n0 - (1 : Nat)) + (1 : Nat))))) (h3 : (n2 = n1)) : (n2 ≤ (16777216 : Nat)) := by omega
theorem om82 {n0 : Nat} {n1 : Nat} (h0 : ((3 : Nat) ≤ n0)) (h1 : (n0 ≤ (5 : Nat))) (h2 : (n1 ≤ n0)) : (n1 ≤ (5 : Nat)) := Nat.le_trans h2 h1
theorem om83 {n0 : Nat} {n1 : Nat} {n2 : Nat} {n3 : Nat} (h0 : (n0 ≤ (16 : Nat))) (h1 : (n1 < n0)) (h2 : (n2 = n1)) (h3 : (n3 = n2)) : (n3 ≤ (16777216 : Nat)) := by omega
theorem om84 {n0 : Nat} {n1 : Nat} {n2 : Nat} {n3 : Nat} (h0 : (n0 ≤ n1)) (h1 : ((n2 + n3) = (n1 - n0))) : ((n0 + n2) ≤ n1) := by omega
theorem om85 {n0 : Nat} {n1 : Nat} (h0 : (n0 ≤ n1)) : (((n0 : Nat) : Int) ≤ ((n1 : Nat) : Int)) := Int.ofNat_le.mpr h0
theorem om86 {i0 : Int} {n1 : Nat} {n2 : Nat} (h0 : ((Int.toNat i0) = n1)) (h1 : (n2 < (n1 + (1 : Nat)))) (h2 : (¬ (n2 < n1))) : (n2 = n1) := Nat.le_antisymm (Nat.le_of_lt_succ h1) (Nat.le_of_not_lt h2)
theorem om87 {n0 : Nat} (h0 : ((3 : Nat) ≤ n0)) (h1 : (n0 ≤ (5 : Nat))) : (n0 ≤ (8 : Nat)) := Nat.le_trans h1 (by decide)
theorem om88 {i0 : Int} {i1 : Int} (h0 : (i0 ≤ (26 : Int))) (h1 : (((0 : Int) ≤ i1) ∧ (i1 < (3 : Int)))) : (((i0 + i1) - (1 : Int)) ≤ (100 : Int)) := by omega
theorem on_lt5 {i : Nat} (h : i < 5) : i = 0 ∨ i = 1 ∨ i = 2 ∨ i = 3 ∨ i = 4 := (by decide : ∀ i : Nat, i < 5 → i = 0 ∨ i = 1 ∨ i = 2 ∨ i = 3 ∨ i = 4) i h
theorem on_lt5i {i : Int} (h : 0 ≤ i ∧ i < 5) : i = 0 ∨ i = 1 ∨ i = 2 ∨ i = 3 ∨ i = 4 := by
  obtain ⟨n, rfl⟩ := Int.eq_ofNat_of_zero_le h.1
  exact (by decide : ∀ n : Nat, n < 5 → (n : Int) = 0 ∨ (n : Int) = 1 ∨ (n : Int) = 2 ∨ (n : Int) = 3 ∨ (n : Int) = 4) n (Int.ofNat_lt.mp h.2)
theorem on_lt3i {i : Int} (h : 0 ≤ i) (h3 : i < 3) : i = 0 ∨ i = 1 ∨ i = 2 := by
  obtain ⟨n, rfl⟩ := Int.eq_ofNat_of_zero_le h
  exact (by decide : ∀ n : Nat, n < 3 → (n : Int) = 0 ∨ (n : Int) = 1 ∨ (n : Int) = 2) n (Int.ofNat_lt.mp h3)
theorem on_min (a b : Int) : min a b = a ∨ min a b = b := (Int.le_total a b).elim (fun h => .inl (Int.min_eq_left h)) fun h => .inr (Int.min_eq_right h)
theorem on_min3 (a b c : Int) : min (min a b) c = a ∨ min (min a b) c = b ∨ min (min a b) c = c := (on_min (min a b) c).elim (fun e => (on_min a b).elim (fun h => .inl (e.trans h)) fun h => .inr (.inl (e.trans h))) fun e => .inr (.inr e)
end Mine
end

section
namespace Mine
/-- what a call of the def at f hands back: the value R, nothing new in the ledger -/
noncomputable def SpV (w : World) (mean : ExcName → Option Value) (mg mb : Str → Option Value) (f : Addr) (dd uu : Nat) (vs : List Value) (R : Tok → Value) : Prop :=
  ∀ (news : List (Addr × Obj)) (dp un : Nat) (gd : Option (List Code)) (cn : Str) (cs : Scope) (a : Addr) (ccd : Value) (cl : List (Str × Addr)) (outer : List Env) (A₀ : Around) (base h₀ : Heap) (L : Addr) (m : Str → Option Value) (s : Shared) (Q E : Value → Shared → Prop),
    Below A₀ base outer h₀ → Fr h₀ L s.heap m → (hd.heap_39 w.params).In h₀ → News h₀ L s.heap news → Top hd.view_39 (looseW hd.view_39 []) mean mg mb h₀ → cs.kind = .function →
    dp + dd < recursionLimit → un + uu < cLine →
    (∀ (t : Tok) (h' : Heap) (tk' : Nat), Fr h₀ L h' m → News h₀ L h' news → Q (R t) { s with heap := h', toks := tk' }) →
    wpAny (model Challenge.rw_ph0059_01.row.prog w) (ktrTop dp un gd cn cs L a ccd cl outer) (call (.ref f) vs) Q E s

theorem SpV.use {w : World} {mean : ExcName → Option Value} {mg mb : Str → Option Value} {f : Addr} {dd uu : Nat} {vs : List Value} {R : Tok → Value} (H : SpV w mean mg mb f dd uu vs R)
    {news : List (Addr × Obj)} {dp un : Nat} {gd : Option (List Code)} {cn : Str} {cs : Scope} {a : Addr} {ccd : Value} {cl : List (Str × Addr)} {outer : List Env} {A₀ : Around} {base h₀ : Heap} {L : Addr} {m : Str → Option Value} {s : Shared} {Q E : Value → Shared → Prop}
    (B : Below A₀ base outer h₀) (F : Fr h₀ L s.heap m) (X : (hd.heap_39 w.params).In h₀) (N : News h₀ L s.heap news) (T : Top hd.view_39 (looseW hd.view_39 []) mean mg mb h₀) (hk : cs.kind = .function)
    (hdp : dp + dd < recursionLimit) (hun : un + uu < cLine)
    (ret : ∀ (t : Tok) (h' : Heap) (tk' : Nat), Fr h₀ L h' m → News h₀ L h' news → Q (R t) { s with heap := h', toks := tk' }) :
    wpAny (model Challenge.rw_ph0059_01.row.prog w) (ktrTop dp un gd cn cs L a ccd cl outer) (call (.ref f) vs) Q E s := H _ _ _ _ _ _ _ _ _ _ _ _ _ _ _ _ _ _ B F X N T hk hdp hun ret
theorem SpV.mono {w : World} {mean : ExcName → Option Value} {mg mb : Str → Option Value} {f : Addr} {dd uu dd' uu' : Nat} {vs : List Value} {R : Tok → Value} (H : SpV w mean mg mb f dd uu vs R) (h1 : dd ≤ dd') (h2 : uu ≤ uu') :
    SpV w mean mg mb f dd' uu' vs R := fun _ _ _ _ _ _ _ _ _ _ _ _ _ _ _ _ _ _ B F X N T hk hdp hun ret => H.use B F X N T hk (Nat.lt_of_le_of_lt (Nat.add_le_add_left h1 _) hdp) (Nat.lt_of_le_of_lt (Nat.add_le_add_left h2 _) hun) ret
end Mine
namespace Mine
theorem led_name {h₀ h : Heap} {L a : Addr} {o : Obj} {r : List (Addr × Obj)} {P : Prop} (_N : News h₀ L h ((a, o) :: r)) (k : ∀ b, b = a → P) : P := k a rfl
theorem ne_of_allLt {d : Addr} {l : List (Addr × Obj)} (h : ∀ p ∈ l, p.1 < d) : ∀ p ∈ l, p.1 ≠ d := fun p hp => Nat.ne_of_lt (h p hp)
theorem ne_append {d : Addr} {l l' : List (Addr × Obj)} (h : ∀ p ∈ l, p.1 ≠ d) (h' : ∀ p ∈ l', p.1 ≠ d) : ∀ p ∈ l ++ l', p.1 ≠ d := fun p hp => (List.mem_append.mp hp).elim (h p) (h' p)
theorem lt_append {d : Addr} {l l' : List (Addr × Obj)} (h : ∀ p ∈ l, p.1 < d) (h' : ∀ p ∈ l', p.1 < d) : ∀ p ∈ l ++ l', p.1 < d := fun p hp => (List.mem_append.mp hp).elim (h p) (h' p)
theorem sub_left {l l' : List (Addr × Obj)} : ∀ p ∈ l, p ∈ l ++ l' := fun _ hp => List.mem_append_left _ hp
theorem sub_right {l l' : List (Addr × Obj)} : ∀ p ∈ l', p ∈ l ++ l' := fun _ hp => List.mem_append_right _ hp
theorem fr_eq {h₀ h : Heap} {L : Addr} {m m' : Str → Option Value} (F : Fr h₀ L h m) (e : ∀ z, m' z = m z) : Fr h₀ L h m' := by
  have : m' = m := funext e
  rw [this]; exact F
theorem m1 (n : Nat) : (-1 + (n : Int)).toNat = n - 1 := by rw [Int.add_comm]; exact Int.toNat_sub n 1
theorem m2 (n : Nat) : (-2 + (n : Int)).toNat = n - 2 := by rw [Int.add_comm]; exact Int.toNat_sub n 2
theorem cutN {p : Int} (n : Nat) (h : p ≤ 0) : (p + (n : Int)).toNat = n - (-p).toNat := by obtain ⟨k, hk⟩ := Int.eq_ofNat_of_zero_le (Int.neg_nonneg_of_nonpos h); rw [hk, ← Int.neg_neg p, hk, Int.toNat_natCast, Int.add_comm]; exact Int.toNat_sub n k
theorem st64 {i : Nat} (h : i < 64) : 64 - i = 63 - i + 1 := Nat.succ_sub (Nat.le_of_lt_succ h)
theorem st64' {i q : Nat} (h : 64 - i = q + 1) : 64 - (i + 1) = q := (Nat.sub_succ 64 i).trans (by rw [h]; rfl)
theorem tn1 {c : Int} (h : 0 ≤ c) : (c + 1).toNat = c.toNat + 1 := Int.toNat_add h (by decide)
theorem meas1 {c : Int} {n : Nat} (h : 0 ≤ c) (h1 : c < n) : n - (c + 1).toNat < n - c.toNat := by rw [tn1 h]; exact Nat.sub_lt_sub_left ((Int.toNat_lt h).mpr h1) (Nat.lt_succ_self _)
theorem ltneg {c : Int} {n : Nat} (h0 : c ≤ 0) (h : -(n : Int) ≤ c - 1) : (-c).toNat < n := by omega
theorem negsucc {c : Int} (h : c ≤ 0) : (-(c - 1)).toNat = (-c).toNat + 1 := by rw [Int.neg_sub, Int.sub_eq_add_neg, Int.add_comm]; exact tn1 (Int.neg_nonneg_of_nonpos h)
theorem measneg {c : Int} {n : Nat} (h : -(n : Int) ≤ c - 1) : ((n : Int) + (c - 1)).toNat < ((n : Int) + c).toNat := (Int.toNat_lt_toNat (by omega)).mpr (by omega)
theorem st2 {n j : Nat} (h : j < n + 2) : n + 2 - j = n + 1 - j + 1 := Nat.succ_sub (Nat.le_of_lt_succ h)
theorem news_cons {h₀ h : Heap} {L a : Addr} {o : Obj} {l : List (Addr × Obj)} (h1 : h.get? a = some o) (h2 : a ≠ L) (h3 : h₀.get? a = none) (N : News h₀ L h l) : News h₀ L h ((a, o) :: l) := fun p hp => by
  rcases List.mem_cons.mp hp with rfl | hp
  · exact ⟨h1, h2, h3⟩
  · exact N p hp
/-- A fact kept from omega's sight: `assumption` still sees through it. -/
noncomputable def Room (P : Prop) : Prop := P
theorem room {P : Prop} (h : P) : Room P := h
theorem room_up {dp a b c R : Nat} (h : dp + a < R) (e : b + c ≤ a) : dp + b + c < R := Nat.lt_of_le_of_lt (by rw [Nat.add_assoc]; exact Nat.add_le_add_left e dp) h
theorem room_lt {dp a R : Nat} (h : dp + a < R) : dp < R := Nat.lt_of_le_of_lt (Nat.le_add_right _ _) h
theorem room_0 {dp a c R : Nat} (h : dp + a < R) (e : c ≤ a) : dp + c < R := Nat.lt_of_le_of_lt (Nat.add_le_add_left e dp) h
end Mine
end

local macro_rules | `(tactic| walk_at "call type:range") => `(tactic| ((rename Fr _ _ _ _ => F'); (rename News _ _ _ _ => N'); with_unfolding_all first | refine range1_rows F' N' ?_ | refine range2_rows F' N' ?_; (intro _ _ _ _ _ _ _ _ _)))
local macro_rules | `(tactic| k_all) => `(tactic| first | assumption | exact Mine.ne_of_allLt (by assumption) | (refine Mine.ne_append ?_ ?_ <;> k_all) | exact OwnOff.ne (by assumption) (by simp))
local macro_rules | `(tactic| walk_at "subscriptTail Name Slice str ref") => `(tactic| ((with_reducible show wpAny _ _ (subscriptTail _ (Expr.Slice none (some (Expr.BoolOp _ _ _)) none _) _ _) _ _ _); (with_reducible rename Fr _ _ _ _ => F'); (with_reducible rename News _ _ _ _ => N'); (refine slice_strN_nn (hsz := ?hsz) (s := ⟨_, _, _, _, _⟩) F' N' ?_); (case hsz => size_fits); intro _ _ _ _ _))
local macro_rules | `(tactic| is_list) => `(tactic| first | exact News.isList (by assumption) (by assumption) | exact News.isList (by assumption) (List.Mem.tail _ (by assumption)))
local macro_rules | `(tactic| k_ne) => `(tactic| first | assumption | exact Ne.symm (by assumption))

section
namespace Mine
noncomputable def subCost (x y : Str) : Int := if x = y then 0 else if Txt.lower x = Txt.lower y then 1 else 2
theorem sub_spec (w : World) (mean : ExcName → Option Value) (mg mb : Str → Option Value) (x : Str) (tx : Tok) (y : Str) (ty : Tok) (hx : x.length = 1) (hy : y.length = 1) :
   SpV w mean mg mb 21 1 8 [.str x tx, .str y ty] (fun t => .int (subCost x y) t) := by
  unfold SpV
  k_fill
  intro news dp un gd cn cs a ccd cl outer A₀ base h₀ L m s Q E hB hF hX hN hT hcs hdp hun hret
  refine wpAny_call ?_
  w_on
  k_dflt (refine' code_def (binds := [(Str.ofString "ch_a", .str x tx), (Str.ofString "ch_b", .str y ty)]) ?k1 ?k2 ?k3 ?k4 ?k5 ?kA ?kF ?kK ?k6 ?k7 ?k8 ?k9 ?kB ?_ ?c2 ?c3 ?c4 ?c5)
  k_dflt (((case k1 | k2 | k3 | k4 | k5 => k_asm); (case kA | kF => exact rfl); (case kK => assumption); (case k6 | k7 => k_is); (case k8 => first | exact Mine.room_lt (by assumption) | ktr_room); (case k9 => exact BindsTo.of_eq rfl); (case c5 => decide); (case kB => exact locs rfl); (case c2 | c3 | c4 => exact rfl); k_whole))
  replace hdp := room hdp
  replace hun := room hun
  intro g' L' h' FG' F' N' B' X' T'
  (try dsimp only [List.reverse, List.reverseAux] at F' ⊢)
  k_fold
  (repeat' (first | (k_unfold; (try dsimp only)) | ((fail_if_success (with_reducible first | show wpAny _ _ (exec (Stmt.For _ _ _ _ _) _) _ _ _ | show wpAny _ _ (exec (Stmt.While _ _ _ _) _) _ _ _ | show wpAny _ _ (pyIter _) _ _ _ | show wpAny _ _ (call (Value.ref _) _ _) _ _ _ | show wpAny _ _ (eval (Expr.Subscript _ (Expr.Slice none (some (Expr.BoolOp _ _ _)) none _) _) _) _ _ _ | show wpAny _ _ (exec (Stmt.If _ [Stmt.Assign [Expr.Tuple _ _ _] _ _] _ _) _) _ _ _ | show wpAny _ _ (exec (Stmt.If (Expr.BoolOp _ _ _) [Stmt.Assign [Expr.Name _ _] (Expr.Subscript _ _ _) _] _ _) _) _ _ _)); walk1; (try dsimp only)) | ((fail_if_success (with_reducible first | show wpAny _ _ (exec (Stmt.For _ _ _ _ _) _) _ _ _ | show wpAny _ _ (exec (Stmt.While _ _ _ _) _) _ _ _ | show wpAny _ _ (pyIter _) _ _ _ | show wpAny _ _ (call (Value.ref _) _ _) _ _ _ | show wpAny _ _ (eval (Expr.Subscript _ (Expr.Slice none (some (Expr.BoolOp _ _ _)) none _) _) _) _ _ _ | show wpAny _ _ (exec (Stmt.If _ [Stmt.Assign [Expr.Tuple _ _ _] _ _] _ _) _) _ _ _ | show wpAny _ _ (exec (Stmt.If (Expr.BoolOp _ _ _) [Stmt.Assign [Expr.Name _ _] (Expr.Subscript _ _ _) _] _ _) _) _ _ _)); dsimp only; walk1) | (leave1; (try dsimp only)) | fail "no step"))
  · have e : subCost x y = 0 := by simp only [subCost]; simp_all
    rw [e] at hret
    exact hret _ _ _ (by assumption) (by assumption)
  · have e : subCost x y = 1 := by simp only [subCost]; simp_all
    rw [e] at hret
    exact hret _ _ _ (by assumption) (by assumption)
  · have e : subCost x y = 2 := by simp only [subCost]; simp_all
    rw [e] at hret
    exact hret _ _ _ (by assumption) (by assumption)
end Mine
end

section
namespace Mine
noncomputable def signs : Str := Str.ofString "aAbB7"
noncomputable def priceOf (x y : Str) : Int := if x = y then 0 else if Int.fdiv (Txt.find signs x) 2 = Int.fdiv (Txt.find signs y) 2 then 1 else 2
theorem price_spec (w : World) (mean : ExcName → Option Value) (mg mb : Str → Option Value) (x : Str) (tx : Tok) (y : Str) (ty : Tok) (hx : x.length = 1) (hy : y.length = 1) (fx : 0 ≤ Txt.find signs x) (fy : 0 ≤ Txt.find signs y)  :
   SpV w mean mg mb 70 1 8 [.str x tx, .str y ty] (fun t => .int (priceOf x y) t) := by
  unfold SpV
  k_fill
  intro news dp un gd cn cs a ccd cl outer A₀ base h₀ L m s Q E hB hF hX hN hT hcs hdp hun hret
  refine wpAny_call ?_
  w_on
  k_dflt (refine' code_def (binds := [(Str.ofString "sign", .str x tx), (Str.ofString "other", .str y ty)]) ?k1 ?k2 ?k3 ?k4 ?k5 ?kA ?kF ?kK ?k6 ?k7 ?k8 ?k9 ?kB ?_ ?c2 ?c3 ?c4 ?c5)
  k_dflt (((case k1 | k2 | k3 | k4 | k5 => k_asm); (case kA | kF => exact rfl); (case kK => assumption); (case k6 | k7 => k_is); (case k8 => first | exact Mine.room_lt (by assumption) | ktr_room); (case k9 => exact BindsTo.of_eq rfl); (case c5 => decide); (case kB => exact locs rfl); (case c2 | c3 | c4 => exact rfl); k_whole))
  replace hdp := room hdp
  replace hun := room hun
  intro g' L' h' FG' F' N' B' X' T'
  (try dsimp only [List.reverse, List.reverseAux] at F' ⊢)
  k_fold
  (repeat' (first | (k_unfold; (try dsimp only)) | ((fail_if_success (with_reducible first | show wpAny _ _ (exec (Stmt.For _ _ _ _ _) _) _ _ _ | show wpAny _ _ (exec (Stmt.While _ _ _ _) _) _ _ _ | show wpAny _ _ (pyIter _) _ _ _ | show wpAny _ _ (call (Value.ref _) _ _) _ _ _ | show wpAny _ _ (eval (Expr.Subscript _ (Expr.Slice none (some (Expr.BoolOp _ _ _)) none _) _) _) _ _ _ | show wpAny _ _ (exec (Stmt.If _ [Stmt.Assign [Expr.Tuple _ _ _] _ _] _ _) _) _ _ _ | show wpAny _ _ (exec (Stmt.If (Expr.BoolOp _ _ _) [Stmt.Assign [Expr.Name _ _] (Expr.Subscript _ _ _) _] _ _) _) _ _ _)); walk1; (try dsimp only)) | ((fail_if_success (with_reducible first | show wpAny _ _ (exec (Stmt.For _ _ _ _ _) _) _ _ _ | show wpAny _ _ (exec (Stmt.While _ _ _ _) _) _ _ _ | show wpAny _ _ (pyIter _) _ _ _ | show wpAny _ _ (call (Value.ref _) _ _) _ _ _ | show wpAny _ _ (eval (Expr.Subscript _ (Expr.Slice none (some (Expr.BoolOp _ _ _)) none _) _) _) _ _ _ | show wpAny _ _ (exec (Stmt.If _ [Stmt.Assign [Expr.Tuple _ _ _] _ _] _ _) _) _ _ _ | show wpAny _ _ (exec (Stmt.If (Expr.BoolOp _ _ _) [Stmt.Assign [Expr.Name _ _] (Expr.Subscript _ _ _) _] _ _) _) _ _ _)); dsimp only; walk1) | (leave1; (try dsimp only)) | fail "no step"))
  · have e : priceOf x y = 0 := by simp only [priceOf]; simp_all
    rw [e] at hret
    exact hret _ _ _ (by assumption) (by assumption)
  · exact absurd fx (by rename_i h _ _ _ _ _ _ _ _; rw [signs, h]; decide)
  · exact absurd fy (by rename_i h _ _ _ _ _ _ _ _; rw [signs, h]; decide)
  · have e : priceOf x y = 1 := by simp only [priceOf, signs]; simp_all
    rw [e] at hret
    exact hret _ _ _ (by assumption) (by assumption)
  · have e : priceOf x y = 2 := by simp only [priceOf, signs]; simp_all
    rw [e] at hret
    exact hret _ _ _ (by assumption) (by assumption)
end Mine
end

section
namespace Mine
noncomputable def ls (x : Str) : List Nat := x.cps.toList
theorem ls_len (x : Str) : (ls x).length = x.length := by simp [ls, Str.length]
theorem ls_inj {x y : Str} (h : ls x = ls y) : x = y := by
  cases x; cases y
  simp only [ls] at h
  congr 1
  exact Array.toList_inj.mp h
theorem ls_beq (x y : Str) : (x == y) = decide (ls x = ls y) := by
  by_cases h : x = y
  · subst h; simp
  · have : ls x ≠ ls y := fun e => h (ls_inj e)
    simp [h, this]
theorem ls_append (x y : Str) : ls (x ++ y) = ls x ++ ls y := by
  show (x.cps ++ y.cps).toList = _
  simp [ls]
theorem ls_ss {x : Str} {i j : Int} (h0 : 0 ≤ i) (h1 : i ≤ j) (h2 : j ≤ x.length) : ls (Txt.slice x (some i) (some j)) = ((ls x).drop i.toNat).take (j - i).toNat := by
  have := slice_closesL h0 h1 h2
  rw [beq_iff_eq.mp this]
  simp [ls]
theorem ls_from {x : Str} {i : Int} (h0 : 0 ≤ i) : ls (Txt.slice x (some i) none) = (ls x).drop i.toNat := by
  by_cases h : i ≤ x.length
  · have := slice_closes_fromL (b := x.length) h0 h rfl
    rw [beq_iff_eq.mp this]
    simp only [ls]
    rw [List.take_of_length_le]
    have := ls_len x
    simp only [List.length_drop]
    simp only [ls] at this
    omega
  · rw [slice_beyond (by exact om0 h)]
    have := ls_len x
    have e : (ls x).drop i.toNat = [] := List.drop_eq_nil_of_le (by exact om1 h0 h this)
    rw [e]
    rfl
theorem ls_to {x : Str} {j : Int} (h0 : 0 ≤ j) (h2 : j ≤ x.length) : ls (Txt.slice x none (some j)) = (ls x).take j.toNat := by
  have := slice_closes_toL h0 h2
  rw [beq_iff_eq.mp this]
  simp [ls]
theorem ls_toneg {x : Str} {j : Int} (h0 : j < 0) (h1 : -(x.length : Int) ≤ j) : ls (Txt.slice x none (some j)) = (ls x).take (j + x.length).toNat := by
  have e : Txt.slice x none (some j) = _ := StrLaws.sliceText_to_neg h0 h1
  rw [e]
  simp [ls]
theorem ls_nn (x : Str) : Txt.slice x none none = x := by
  have e : Txt.slice x none none = Txt.slice x (some 0) none := by
    show StrLaws.sliceText x none none = StrLaws.sliceText x (some 0) none
    unfold StrLaws.sliceText
    rw [StrLaws.sliceIdx_none_lo]
  apply ls_inj
  rw [e, ls_from (by omega)]
  rfl
theorem ls_item {x : Str} {i : Int} (h0 : 0 ≤ i) (h1 : i < x.length) : ls (Txt.item x i) = [(ls x).getD i.toNat 0] := by
  have := item_closes ⟨h0, h1⟩
  rw [beq_iff_eq.mp this]
  simp [ls]
theorem ls_item_neg {x : Str} {i : Int} (h0 : i < 0) (h1 : -(x.length : Int) ≤ i) : ls (Txt.item x i) = [(ls x).getD (i + x.length).toNat 0] := by
  have := item_closes_neg (j := i + x.length) h0 h1 rfl
  rw [beq_iff_eq.mp this]
  simp [ls]
noncomputable def abc : List Nat := [97, 65, 98, 66, 55]
noncomputable def Al (x : Str) : Prop := ∀ c ∈ ls x, c ∈ abc
theorem Al.from {x : Str} {i : Int} (h : Al x) (h0 : 0 ≤ i) : Al (Txt.slice x (some i) none) := by
  intro c hc
  rw [ls_from h0] at hc
  exact h c (List.mem_of_mem_drop hc)
theorem Al.ss {x : Str} {i j : Int} (h : Al x) (h0 : 0 ≤ i) (h1 : i ≤ j) (h2 : j ≤ x.length) : Al (Txt.slice x (some i) (some j)) := by
  intro c hc
  rw [ls_ss h0 h1 h2] at hc
  exact h c (List.mem_of_mem_drop (List.mem_of_mem_take hc))
theorem Al.to {x : Str} {j : Int} (h : Al x) (h0 : 0 ≤ j) (h2 : j ≤ x.length) : Al (Txt.slice x none (some j)) := by
  intro c hc
  rw [ls_to h0 h2] at hc
  exact h c (List.mem_of_mem_take hc)
theorem Al.toneg {x : Str} {j : Int} (h : Al x) (h0 : j < 0) (h1 : -(x.length : Int) ≤ j) : Al (Txt.slice x none (some j)) := by
  intro c hc
  rw [ls_toneg h0 h1] at hc
  exact h c (List.mem_of_mem_take hc)
theorem Al.append {x y : Str} (hx : Al x) (hy : Al y) : Al (x ++ y) := by
  intro c hc
  rw [ls_append] at hc
  exact (List.mem_append.mp hc).elim (hx c) (hy c)
theorem Al.getD {x : Str} (h : Al x) {i : Nat} (hi : i < x.length) : (ls x).getD i 0 ∈ abc := by
  rw [← ls_len] at hi
  have : (ls x).getD i 0 = (ls x)[i] := by simp [List.getD, hi]
  rw [this]
  exact h _ (List.getElem_mem hi)
/-- a sign's price -/
noncomputable def low (c : Nat) : Nat := if c = 65 then 97 else if c = 66 then 98 else c
noncomputable def pr (c d : Nat) : Int := if c = d then 0 else if low c = low d then 1 else 2
noncomputable def one (c : Nat) : Str := ⟨#[c]⟩
theorem eq_one {x : Str} {c : Nat} (h : ls x = [c]) : x = one c := ls_inj (by rw [h]; rfl)
theorem find_one : ∀ c ∈ abc, 0 ≤ Txt.find signs (one c) := by decide +kernel
theorem price_one : ∀ c ∈ abc, ∀ d ∈ abc, priceOf (one c) (one d) = pr c d := by decide +kernel
theorem sub_one : ∀ c ∈ abc, ∀ d ∈ abc, subCost (one c) (one d) = pr c d := by decide +kernel
theorem item_one {x : Str} {i : Int} (h0 : 0 ≤ i) (h1 : i < x.length) : Txt.item x i = one ((ls x).getD i.toNat 0) := eq_one (ls_item h0 h1)
theorem find_item {x : Str} {i : Int} (hx : Al x) (h0 : 0 ≤ i) (h1 : i < x.length) : 0 ≤ Txt.find signs (Txt.item x i) := by
  rw [item_one h0 h1]
  exact find_one _ (hx.getD (by exact om2 h0 h1))
theorem price_item {x y : Str} {i j : Int} (hx : Al x) (hy : Al y) (h0 : 0 ≤ i) (h1 : i < x.length) (g0 : 0 ≤ j) (g1 : j < y.length) : priceOf (Txt.item x i) (Txt.item y j) = pr ((ls x).getD i.toNat 0) ((ls y).getD j.toNat 0) := by
  rw [item_one h0 h1, item_one g0 g1]
  exact price_one _ (hx.getD (by exact om2 h0 h1)) _ (hy.getD (by exact om2 g0 g1))
theorem sub_item {x y : Str} {i j : Int} (hx : Al x) (hy : Al y) (h0 : 0 ≤ i) (h1 : i < x.length) (g0 : 0 ≤ j) (g1 : j < y.length) : subCost (Txt.item x i) (Txt.item y j) = pr ((ls x).getD i.toNat 0) ((ls y).getD j.toNat 0) := by
  rw [item_one h0 h1, item_one g0 g1]
  exact sub_one _ (hx.getD (by exact om2 h0 h1)) _ (hy.getD (by exact om2 g0 g1))
/-- what the law's least reckons -/
noncomputable def least (u : List Nat) : List Nat → Int := @List.rec Nat (fun _ => List Nat → Int) (fun v => 2 * v.length) (fun c _ ih v => ((List.range v.length).map fun (k : Nat) => 2 * (k : Int) + pr c (v.getD k 0) + ih (v.drop (k + 1))).foldl min (2 + ih v)) u
theorem least_nil (v : List Nat) : least [] v = 2 * v.length := rfl
theorem least_cons (c : Nat) (u v : List Nat) : least (c :: u) v = ((List.range v.length).map fun (k : Nat) => 2 * (k : Int) + pr c (v.getD k 0) + least u (v.drop (k + 1))).foldl min (2 + least u v) := rfl
theorem foldl_min_le (l : List Int) : ∀ a : Int, l.foldl min a ≤ a ∧ ∀ b ∈ l, l.foldl min a ≤ b := by
  induction l with
  | nil => intro a; exact ⟨Int.le_refl _, fun _ h => nomatch h⟩
  | cons c r ih =>
    intro a
    have h := ih (min a c)
    rw [List.foldl_cons]
    refine ⟨Int.le_trans h.1 (Int.min_le_left _ _), fun b hb => ?_⟩
    rcases List.mem_cons.mp hb with rfl | hb
    · exact Int.le_trans h.1 (Int.min_le_right _ _)
    · exact h.2 b hb
theorem mem_foldl_min (l : List Int) : ∀ a : Int, l.foldl min a = a ∨ l.foldl min a ∈ l := by
  induction l with
  | nil => intro a; exact .inl rfl
  | cons c r ih =>
    intro a
    rw [List.foldl_cons]
    rcases ih (min a c) with h | h
    · rw [h]
      rcases Int.le_total a c with q | q
      · exact .inl (Int.min_eq_left q)
      · exact .inr (by rw [Int.min_eq_right q]; exact .head _)
    · exact .inr (.tail _ h)
/-- the least of a list is what the fold reckons -/
theorem least_is {a M : Int} {l : List Int} (h1 : M ∈ a :: l) (h2 : ∀ b, b ∈ a :: l → M ≤ b) : M = l.foldl min a := by
  have p := foldl_min_le l a
  apply Int.le_antisymm
  · rcases mem_foldl_min l a with h | h
    · rw [h]; exact h2 a (.head _)
    · exact h2 _ (.tail _ h)
  · rcases List.mem_cons.mp h1 with rfl | h
    · exact p.1
    · exact p.2 M h
end Mine
end

section
namespace Mine
theorem pr_nonneg (c d : Nat) : 0 ≤ pr c d := by unfold pr; split <;> (try split) <;> omega
theorem pr_le (c d : Nat) : pr c d ≤ 2 := by unfold pr; split <;> (try split) <;> omega
theorem pr_self (c : Nat) : pr c c = 0 := by simp [pr]
theorem pr_symm (c d : Nat) : pr c d = pr d c := by
  unfold pr
  by_cases h : c = d
  · subst h; rfl
  · have h' : d ≠ c := fun e => h e.symm
    by_cases q : low c = low d
    · simp [h, h', q]
    · have q' : low d ≠ low c := fun e => q e.symm
      simp [h, h', q, q']
/-- the edit distance -/
noncomputable def D (u : List Nat) : List Nat → Int := @List.rec Nat (fun _ => List Nat → Int) (fun v => 2 * (v.length : Int)) (fun c u ih v => @List.rec Nat (fun _ => Int) (2 * ((c :: u).length : Int)) (fun d v ihv => min (min (ih (d :: v) + 2) (ihv + 2)) (ih v + pr c d)) v) u
theorem D_nil (v : List Nat) : D [] v = 2 * (v.length : Int) := by with_unfolding_all rfl
theorem D_nil_r (u : List Nat) : D u [] = 2 * (u.length : Int) := by cases u <;> with_unfolding_all rfl
theorem D_cons (c d : Nat) (u v : List Nat) : D (c :: u) (d :: v) = min (min (D u (d :: v) + 2) (D (c :: u) v + 2)) (D u v + pr c d) := by with_unfolding_all rfl
theorem D_c1 (c d : Nat) (u v : List Nat) : D (c :: u) (d :: v) ≤ D u (d :: v) + 2 := by rw [D_cons]; exact Int.le_trans (Int.min_le_left _ _) (Int.min_le_left _ _)
theorem D_c2 (c d : Nat) (u v : List Nat) : D (c :: u) (d :: v) ≤ D (c :: u) v + 2 := by rw [D_cons]; exact Int.le_trans (Int.min_le_left _ _) (Int.min_le_right _ _)
theorem D_c3 (c d : Nat) (u v : List Nat) : D (c :: u) (d :: v) ≤ D u v + pr c d := by rw [D_cons]; exact Int.min_le_right _ _
theorem le_D {x : Int} {c d : Nat} {u v : List Nat} (h1 : x ≤ D u (d :: v) + 2) (h2 : x ≤ D (c :: u) v + 2) (h3 : x ≤ D u v + pr c d) : x ≤ D (c :: u) (d :: v) := by
  rw [D_cons]; exact Int.le_min.mpr ⟨Int.le_min.mpr ⟨h1, h2⟩, h3⟩
theorem D_cases (c d : Nat) (u v : List Nat) : D (c :: u) (d :: v) = D u (d :: v) + 2 ∨ D (c :: u) (d :: v) = D (c :: u) v + 2 ∨ D (c :: u) (d :: v) = D u v + pr c d := by
  rw [D_cons]
  exact on_min3 _ _ _
/-- an induction over two lists -/
theorem two_ind {P : List Nat → List Nat → Prop} (h1 : ∀ v, P [] v) (h2 : ∀ c u, P (c :: u) []) (h3 : ∀ c u d v, P u (d :: v) → P (c :: u) v → P u v → P (c :: u) (d :: v)) : ∀ u v, P u v := by
  intro u
  induction u with
  | nil => exact h1
  | cons c u ih =>
    intro v
    induction v with
    | nil => exact h2 c u
    | cons d v ihv => exact h3 c u d v (ih _) ihv (ih v)
theorem D_nonneg : ∀ u v, 0 ≤ D u v := by
  refine two_ind (fun v => ?_) (fun c u => ?_) (fun c u d v a b e => ?_)
  · rw [D_nil]; exact om6
  · rw [D_nil_r]; exact om6
  · have := pr_nonneg c d; exact le_D (by exact om7 a) (by exact om7 b) (by omega)
theorem D_symm_le : ∀ u v, D v u ≤ D u v ∧ D u v ≤ D v u := by
  refine two_ind (fun v => ?_) (fun c u => ?_) (fun c u d v a b e => ?_)
  · rw [D_nil, D_nil_r]; exact om8
  · rw [D_nil, D_nil_r]; exact om8
  · have h1 := D_c1 c d u v; have h2 := D_c2 c d u v; have h3 := D_c3 c d u v
    have g1 := D_c1 d c v u; have g2 := D_c2 d c v u; have g3 := D_c3 d c v u
    rw [pr_symm d c] at g3
    refine ⟨le_D (by exact om9 a g2) (by exact om9 b g1) (by omega), le_D (by exact om10 b h2) (by exact om10 a h1) (by rw [pr_symm d c]; omega)⟩
theorem D_symm (u v : List Nat) : D u v = D v u := Int.le_antisymm (D_symm_le u v).2 (D_symm_le u v).1
theorem D_le_cons (c : Nat) (u v : List Nat) : D (c :: u) v ≤ D u v + 2 := by
  cases v with
  | nil => rw [D_nil_r, D_nil_r]; simp only [List.length_cons]; omega
  | cons d v => exact D_c1 c d u v
theorem D_le_cons_r (d : Nat) (u v : List Nat) : D u (d :: v) ≤ D u v + 2 := by
  rw [D_symm u, D_symm u]; exact D_le_cons d v u
theorem D_nil_le (c : Nat) (v : List Nat) : 2 * (v.length : Int) ≤ D [c] v + 2 := by
  induction v with
  | nil => rw [D_nil_r]; simp
  | cons d v ih =>
    have h : 2 * ((d :: v).length : Int) - 2 ≤ D [c] (d :: v) := by
      have := pr_nonneg c d
      refine le_D ?_ ?_ ?_
      · rw [D_nil]; omega
      · simp only [List.length_cons]; omega
      · rw [D_nil]; simp only [List.length_cons]; omega
    omega
theorem D_ge_cons : ∀ (u v : List Nat), (∀ c, D u v ≤ D (c :: u) v + 2) ∧ ∀ d, D u v ≤ D u (d :: v) + 2 := by
  refine two_ind (fun v => ?_) (fun c u => ?_) (fun c u d v a b e => ?_)
  · refine ⟨fun c => ?_, fun d => ?_⟩
    · rw [D_nil]; exact D_nil_le c v
    · rw [D_nil, D_nil]; simp only [List.length_cons]; omega
  · refine ⟨fun c' => ?_, fun d => ?_⟩
    · rw [D_nil_r, D_nil_r]; simp only [List.length_cons]; omega
    · rw [D_nil_r, D_symm]; exact D_nil_le d (c :: u)
  · have h2 := a.2; have h3 := b.1
    refine ⟨fun c' => ?_, fun d' => ?_⟩
    · have q := h3 c'
      have p1 := D_c2 c d u v
      have p := pr_nonneg c' d
      have : D (c :: u) (d :: v) - 2 ≤ D (c' :: c :: u) (d :: v) := le_D (by exact om11) (by omega) (by exact om12 p1 p)
      exact om13 this
    · have p1 := D_c1 c d u v
      have q := h2 d'
      have p := pr_nonneg c d'
      have : D (c :: u) (d :: v) - 2 ≤ D (c :: u) (d' :: d :: v) := le_D (by omega) (by exact om11) (by exact om12 p1 p)
      exact om13 this
theorem D_same (c : Nat) (u v : List Nat) : D (c :: u) (c :: v) = D u v := by
  have h1 := (D_ge_cons u v).1 c
  have h2 := (D_ge_cons u v).2 c
  have h3 := D_c3 c c u v
  rw [pr_self] at h3
  refine Int.le_antisymm (by omega) (le_D (by omega) (by omega) (by rw [pr_self]; omega))
theorem D_drop : ∀ (k : Nat) (u v : List Nat), u.take k = v.take k → D u v = D (u.drop k) (v.drop k) := by
  intro k
  induction k with
  | zero => intro u v _; rfl
  | succ k ih =>
    intro u v h
    cases u with
    | nil =>
      cases v with
      | nil => rfl
      | cons d v => simp at h
    | cons c u =>
      cases v with
      | nil => simp at h
      | cons d v =>
        simp only [List.take_succ_cons, List.cons.injEq] at h
        obtain ⟨rfl, h⟩ := h
        rw [D_same, ih u v h]
        rfl
theorem D_diff : ∀ u v, 2 * ((v.length : Int) - u.length) ≤ D u v ∧ 2 * ((u.length : Int) - v.length) ≤ D u v := by
  refine two_ind (fun v => ?_) (fun c u => ?_) (fun c u d v a b e => ?_)
  · rw [D_nil]; simp only [List.length_nil]; omega
  · rw [D_nil_r]; simp only [List.length_nil]; omega
  · have := pr_nonneg c d
    simp only [List.length_cons] at *
    exact ⟨le_D (by omega) (by omega) (by omega), le_D (by omega) (by omega) (by omega)⟩
/-- a text put together -/
theorem D_concat_nil (u2 v2 : List Nat) : ∀ u1, D (u1 ++ u2) v2 ≤ D u1 [] + D u2 v2 := by
  intro u1
  induction u1 with
  | nil => simp [D_nil]
  | cons c u ih =>
    have h := D_le_cons c (u ++ u2) v2
    simp only [List.cons_append, D_nil_r, List.length_cons] at *
    exact om14 h ih
theorem D_concat_nil_r (u2 v2 : List Nat) : ∀ v1, D u2 (v1 ++ v2) ≤ D [] v1 + D u2 v2 := by
  intro v1
  induction v1 with
  | nil => simp [D_nil]
  | cons d v ih =>
    have h := D_le_cons_r d u2 (v ++ v2)
    simp only [List.cons_append, D_nil, List.length_cons] at *
    exact om14 h ih
theorem D_concat (u2 v2 : List Nat) : ∀ u1 v1, D (u1 ++ u2) (v1 ++ v2) ≤ D u1 v1 + D u2 v2 := by
  refine two_ind (fun v => ?_) (fun c u => ?_) (fun c u d v a b e => ?_)
  · exact D_concat_nil_r u2 v2 v
  · exact D_concat_nil u2 v2 (c :: u)
  · simp only [List.cons_append] at *
    have h1 := D_c1 c d (u ++ u2) (v ++ v2); have h2 := D_c2 c d (u ++ u2) (v ++ v2); have h3 := D_c3 c d (u ++ u2) (v ++ v2)
    rcases D_cases c d u v with h | h | h <;> omega
/-- a text cut: the cheapest laying falls apart with it -/
theorem D_split (w : List Nat) : ∀ u v, ∃ u1 u2, u = u1 ++ u2 ∧ D u1 v + D u2 w ≤ D u (v ++ w) := by
  refine two_ind (fun v => ?_) (fun c u => ?_) (fun c u d v a b e => ?_)
  · exact ⟨[], [], rfl, by simp only [D_nil, List.length_append]; omega⟩
  · exact ⟨[], c :: u, rfl, by simp [D_nil]⟩
  · obtain ⟨a1, a2, ha, ha'⟩ := a
    obtain ⟨b1, b2, hb, hb'⟩ := b
    obtain ⟨e1, e2, he, he'⟩ := e
    simp only [List.cons_append] at *
    rcases D_cases c d u (v ++ w) with h | h | h
    · refine ⟨c :: a1, a2, by rw [ha]; rfl, ?_⟩
      have := D_le_cons c a1 (d :: v)
      exact om15 ha' h this
    · refine ⟨b1, b2, hb, ?_⟩
      have := D_le_cons_r d b1 v
      exact om15 hb' h this
    · refine ⟨c :: e1, e2, by rw [he]; rfl, ?_⟩
      have := D_c3 c d e1 v
      exact om16 he' h this
theorem D_one (x y : Nat) : D [x] [y] = pr x y := by
  have h3 := D_c3 x y [] []
  rw [D_nil] at h3
  have := pr_le x y
  refine Int.le_antisymm (by simpa using h3) (le_D ?_ ?_ ?_)
  · rw [D_nil]; simp; exact om17 this
  · rw [D_nil_r]; simp; exact om17 this
  · rw [D_nil]; simp
theorem D_last_one (x y : Nat) : ∀ u : List Nat, D u [y] + 2 ≤ D (u ++ [x]) [y] ∨ 2 * (u.length : Int) + pr x y ≤ D (u ++ [x]) [y] := by
  intro u
  induction u with
  | nil => right; simp [D_one]
  | cons c u ih =>
    simp only [List.cons_append, List.length_cons] at *
    have g1 := D_c1 c y u []
    have g2 := D_c2 c y u []
    have g3 := D_c3 c y u []
    have p := pr_nonneg c y
    rcases D_cases c y (u ++ [x]) [] with h | h | h
    · rcases ih with q | q
      · left; omega
      · right; omega
    · left; simp only [D_nil_r, List.length_cons, List.length_append, List.length_nil] at *; omega
    · left; simp only [D_nil_r, List.length_cons, List.length_append, List.length_nil] at *; omega
theorem D_s1 (x : Nat) (u v : List Nat) : D (u ++ [x]) v ≤ D u v + 2 := by
  have := D_concat [x] [] u v
  rw [List.append_nil, D_nil_r] at this
  simpa using this
theorem D_s2 (y : Nat) (u v : List Nat) : D u (v ++ [y]) ≤ D u v + 2 := by
  have := D_concat [] [y] u v
  rw [List.append_nil, D_nil] at this
  simpa using this
theorem D_s3 (x y : Nat) (u v : List Nat) : D (u ++ [x]) (v ++ [y]) ≤ D u v + pr x y := by
  have := D_concat [x] [y] u v
  rw [D_one] at this
  exact this
theorem le_D_snoc (x y : Nat) (u v : List Nat) : D u (v ++ [y]) + 2 ≤ D (u ++ [x]) (v ++ [y]) ∨ D (u ++ [x]) v + 2 ≤ D (u ++ [x]) (v ++ [y]) ∨ D u v + pr x y ≤ D (u ++ [x]) (v ++ [y]) := by
  obtain ⟨u1, u2, e, h⟩ := D_split [y] (u ++ [x]) v
  rcases List.eq_nil_or_concat u2 with rfl | ⟨w, z, rfl⟩
  · right; left
    rw [List.append_nil] at e
    subst e
    rw [D_nil] at h
    simpa using h
  · rw [List.concat_eq_append] at *
    rw [← List.append_assoc] at e
    have e1 : u = u1 ++ w := List.append_inj_left' e rfl
    have e2 : x = z := by simpa using List.append_inj_right' e rfl
    subst e1 e2
    rcases D_last_one x y w with q | q
    · left
      have := D_concat w [y] u1 v
      omega
    · right; right
      have := D_concat w [] u1 v
      rw [List.append_nil, D_nil_r] at this
      omega
/-- what a turn of the reckoning row by row makes -/
theorem D_snoc (x y : Nat) (u v : List Nat) : D (u ++ [x]) (v ++ [y]) = min (min (D (u ++ [x]) v) (D u (v ++ [y])) + 2) (D u v + pr x y) := by
  have h1 := D_s1 x u (v ++ [y])
  have h2 := D_s2 y (u ++ [x]) v
  have h3 := D_s3 x y u v
  have h := le_D_snoc x y u v
  generalize D (u ++ [x]) (v ++ [y]) = a at *
  generalize D (u ++ [x]) v = b at *
  generalize D u (v ++ [y]) = c at *
  generalize D u v + pr x y = d at *
  omega
theorem D_ge_snoc (c : Nat) (u v : List Nat) : D u v ≤ D (u ++ [c]) v + 2 ∧ D u v ≤ D u (v ++ [c]) + 2 := by
  have key : ∀ u v : List Nat, D u v ≤ D (u ++ [c]) v + 2 := by
    intro u
    refine fun v => ?_
    revert v
    induction u with
    | nil => intro v; rw [D_nil]; exact D_nil_le c v
    | cons q u ih =>
      intro v
      induction v with
      | nil => rw [D_nil_r, D_nil_r]; simp only [List.length_cons, List.length_append, List.length_nil]; omega
      | cons d v ihv =>
        simp only [List.cons_append] at *
        have g1 := D_c1 q d u v; have g2 := D_c2 q d u v; have g3 := D_c3 q d u v
        have i1 := ih (d :: v); have i2 := ih v
        rcases D_cases q d (u ++ [c]) v with h | h | h <;> omega
  exact ⟨key u v, by rw [D_symm u, D_symm u]; exact key v u⟩
theorem D_same_snoc (c : Nat) (u v : List Nat) : D (u ++ [c]) (v ++ [c]) = D u v := by
  have h3 := D_s3 c c u v
  have h1 := (D_ge_snoc c u v).1
  have h2 := (D_ge_snoc c u v).2
  have h := le_D_snoc c c u v
  rw [pr_self] at h h3
  omega
/-- equal ends are cut off -/
theorem D_take (j : Nat) : ∀ (u v : List Nat), u.drop (u.length - j) = v.drop (v.length - j) → j ≤ u.length → j ≤ v.length → D u v = D (u.take (u.length - j)) (v.take (v.length - j)) := by
  induction j with
  | zero => intro u v _ _ _; simp
  | succ j ih =>
    intro u v h hu hv
    rcases List.eq_nil_or_concat u with rfl | ⟨u', c, rfl⟩
    · simp at hu
    rcases List.eq_nil_or_concat v with rfl | ⟨v', d, rfl⟩
    · simp at hv
    simp only [List.concat_eq_append, List.length_append, List.length_cons, List.length_nil] at *
    have e1 : ∀ (w : List Nat) (q : Nat), j ≤ w.length → (w ++ [q]).drop (w.length + (0 + 1) - (j + 1)) = w.drop (w.length - j) ++ [q] := by
      intro w q hw
      have : w.length + (0 + 1) - (j + 1) = w.length - j := by exact om18 hw
      rw [this, List.drop_append_of_le_length (by exact om19 hw)]
    have e2 : ∀ (w : List Nat) (q : Nat), j ≤ w.length → (w ++ [q]).take (w.length + (0 + 1) - (j + 1)) = w.take (w.length - j) := by
      intro w q hw
      have : w.length + (0 + 1) - (j + 1) = w.length - j := by exact om18 hw
      rw [this, List.take_append_of_le_length (by exact om19 hw)]
    rw [e1 u' c (by exact om20 hu), e1 v' d (by exact om20 hv)] at h
    have h1 : u'.drop (u'.length - j) = v'.drop (v'.length - j) := List.append_inj_left' h rfl
    have h2 : c = d := by simpa using List.append_inj_right' h rfl
    subst h2
    rw [D_same_snoc, ih u' v' h1 (by exact om20 hu) (by exact om20 hv), e2 u' c (by exact om20 hu), e2 v' c (by exact om20 hv)]
end Mine
end

section
namespace Mine
/-- the table of the reckoning row by row -/
noncomputable def Ed (u v : List Nat) (i j : Nat) : Int := D (u.take j) (v.take i)
theorem Ed_zero (u v : List Nat) (i : Nat) (hi : i ≤ v.length) : Ed u v i 0 = 2 * (i : Int) := by
  simp only [Ed, List.take_zero, D_nil, List.length_take]
  exact om3 hi
theorem Ed_row0 (u v : List Nat) (j : Nat) (hj : j ≤ u.length) : Ed u v 0 j = 2 * (j : Int) := by
  simp only [Ed, List.take_zero, D_nil_r, List.length_take]
  exact om3 hj
theorem take_snoc (u : List Nat) (j : Nat) (h : j < u.length) : u.take (j + 1) = u.take j ++ [u.getD j 0] := by
  rw [List.take_add_one]
  have : u[j]? = some (u.getD j 0) := by simp [List.getD, h]
  rw [this]; rfl
theorem Ed_step (u v : List Nat) (i j : Nat) (hi : i < v.length) (hj : j < u.length) : Ed u v (i + 1) (j + 1) = min (min (Ed u v i (j + 1)) (Ed u v (i + 1) j) + 2) (Ed u v i j + pr (u.getD j 0) (v.getD i 0)) := by
  unfold Ed
  rw [take_snoc u j hj, take_snoc v i hi]
  exact D_snoc _ _ _ _
/-- a turn of the inner loop -/
theorem Ed_turn (u v : List Nat) (i j : Nat) (hi : i < v.length) (hj : j < u.length) (r : Int) (hr : r = if j = 0 then 2 * (i : Int) else Ed u v (i + 1) j) :
    min (min r (Ed u v i (j + 1)) + 2) (Ed u v i j + pr (v.getD i 0) (u.getD j 0)) = Ed u v (i + 1) (j + 1) := by
  rw [Ed_step u v i j hi hj, pr_symm (v.getD i 0)]
  by_cases h : j = 0
  · subst h
    rw [if_pos rfl] at hr
    rw [Ed_zero u v i (by exact om4 hi), Ed_zero u v (i + 1) (by exact om5 hi)]
    have := pr_le (u.getD 0 0) (v.getD i 0)
    generalize Ed u v i (0 + 1) = a
    generalize pr (u.getD 0 0) (v.getD i 0) = p at *
    omega
  · rw [if_neg h] at hr
    rw [hr, Int.min_comm (Ed u v (i + 1) j)]
theorem Ed_end (u v : List Nat) : Ed u v v.length u.length = D u v := by simp [Ed]
/-- a row above the bound -/
theorem Ed_over (u v : List Nat) (i : Nat) (hi : i < v.length) (hu : 0 < u.length) (mn : Int) (h : ∀ q, q < u.length → mn ≤ Ed u v (i + 1) (q + 1)) : mn ≤ D u v := by
  have e : v = v.take (i + 1) ++ v.drop (i + 1) := (List.take_append_drop _ _).symm
  obtain ⟨u1, u2, e1, h1⟩ := D_split (v.drop (i + 1)) u (v.take (i + 1))
  rw [← e] at h1
  have h2 := D_nonneg u2 (v.drop (i + 1))
  have e2 : u1 = u.take u1.length := by rw [e1]; simp
  have hl : u1.length ≤ u.length := by rw [e1]; simp
  have h3 : D u1 (v.take (i + 1)) = Ed u v (i + 1) u1.length := by
    unfold Ed; rw [← e2]
  rcases Nat.eq_zero_or_pos u1.length with h0 | h0
  · rw [h0, Ed_zero u v (i + 1) (by exact om5 hi)] at h3
    have h4 := h 0 hu
    have h5 : Ed u v (i + 1) (0 + 1) ≤ 2 * (i : Int) + 2 := by
      have := Ed_step u v i 0 hi hu
      rw [Ed_zero u v i (by exact om4 hi)] at this
      have p := pr_le (u.getD 0 0) (v.getD i 0)
      rw [this]
      refine Int.le_trans (Int.min_le_right _ _) ?_
      omega
    omega
  · have h4 := h (u1.length - 1) (by omega)
    have e3 : u1.length - 1 + 1 = u1.length := by omega
    rw [e3] at h4
    omega
theorem ints_of {vs : List Value} : ∀ {n : Nat} {f : Nat → Int}, vs.length = n → (∀ (j : Nat) v, vs[j]? = some v → ∃ t, v = .int (f j) t) → IntsAre vs ((List.range n).map f) := by
  induction vs with
  | nil => intro n f h _; subst h; exact IntsAre.nil
  | cons v r ih =>
    intro n f h hv
    subst h
    obtain ⟨t, rfl⟩ := hv 0 v rfl
    rw [List.length_cons, List.range_succ_eq_map, List.map_cons, List.map_map]
    exact IntsAre.cons _ _ (ih rfl fun j v hj => hv (j + 1) v hj)
section
variable {prog : Program} {w : World} {A : Around} {E : Value → Shared → Prop} {s : Shared} {h₀ : Heap} {L r : Addr} {m : Str → Option Value} {news : List (Addr × Obj)} {a b c : Int} {t₀ u₀ v₀ : Tok} {n : Nat} {Q : Value → Shared → Prop}
theorem list_range (hh : A.handled = none) (F : Fr h₀ L s.heap m) (N : News h₀ L s.heap news) (hr : IsRange s.heap r a b c t₀ u₀ v₀) (hsmall : Builtin.Range.small a b c = true) (hn : Builtin.Range.rangeSize a b c = (n : Int)) (hz : n ≤ 2 ^ 24)
    (h : ∀ D us e h' tk, Fr h₀ L h' m → News h₀ L h' ((D, listOf (List.toArray us) e) :: news) → (∀ p ∈ news, p.1 < D) → IntsAre us ((List.range n).map fun (i : Nat) => a + (i : Int) * c) → Q (.ref D) { s with heap := h', toks := tk }) :
    wpAny (model prog w) A (call (.type "list") [.ref r]) Q E s := by
  refine call_list_range hh hr hsmall hn hz fun h' tk acc e hk hD hI => ?_
  have hD' : h'.get? s.heap.objs.size = some (listOf (List.toArray acc.toList) e) := by
    rw [Array.toArray_toList]
    exact hD
  exact h _ acc.toList e h' tk (F.keeps hk) (news_pushed F N hk hD' rfl) (fun p hp => Heap.lt_size (N p hp).1) (ints_of (by rw [Array.length_toList]; exact hI.1) fun j v hj => hI.2 j v (by rw [← hj, Array.getElem?_toList]))
end
theorem row_small : ∀ n : Nat, 1 ≤ n → n ≤ 8 → Builtin.Range.small 2 (2 * ((n : Int) + 1)) 2 = true ∧ Builtin.Range.rangeSize 2 (2 * ((n : Int) + 1)) 2 = (n : Int) := by
  intro n h1 h2
  replace h2 := Nat.lt_succ_of_le h2
  rcases Nat.lt_succ_iff_lt_or_eq.mp h2 with h2 | rfl
  rotate_left
  · decide +kernel
  rcases Nat.lt_succ_iff_lt_or_eq.mp h2 with h2 | rfl
  rotate_left
  · decide +kernel
  rcases Nat.lt_succ_iff_lt_or_eq.mp h2 with h2 | rfl
  rotate_left
  · decide +kernel
  rcases Nat.lt_succ_iff_lt_or_eq.mp h2 with h2 | rfl
  rotate_left
  · decide +kernel
  rcases Nat.lt_succ_iff_lt_or_eq.mp h2 with h2 | rfl
  rotate_left
  · decide +kernel
  rcases Nat.lt_succ_iff_lt_or_eq.mp h2 with h2 | rfl
  rotate_left
  · decide +kernel
  rcases Nat.lt_succ_iff_lt_or_eq.mp h2 with h2 | rfl
  rotate_left
  · decide +kernel
  rcases Nat.lt_succ_iff_lt_or_eq.mp h2 with h2 | rfl
  rotate_left
  · decide +kernel
  exact absurd h1 (Nat.not_le.mpr h2)
theorem set_row (n j : Nat) (f g : Nat → Int) : ((List.range n).map (fun q => if q < j then f q else g q)).set j (f j) = (List.range n).map (fun q => if q < j + 1 then f q else g q) := by
  apply List.ext_getElem
  · simp
  · intro i h1 h2
    rw [List.getElem_set]
    simp only [List.getElem_map, List.getElem_range]
    by_cases h : j = i
    · subst h; simp
    · rw [if_neg h]
      by_cases q : i < j
      · rw [if_pos q, if_pos (by omega)]
      · rw [if_neg q, if_neg (by omega)]
theorem get_row (n j : Nat) (f g : Nat → Int) (h : j < n) : ((List.range n).map (fun q => if q < j then f q else g q)).getD j 0 = g j := by
  simp [List.getD, h]
/-- the turn's result as the walk says it -/
theorem Ed_walk (u v : List Nat) (i j : Nat) (hi : i < v.length) (hj : j < u.length) (r d s row : Int) (hr : r = if j = 0 then 2 * (i : Int) else Ed u v (i + 1) j) (hd : d = Ed u v i j) (hrow : row = Ed u v i (j + 1)) (hs : s = pr (v.getD i 0) (u.getD j 0)) :
    (if d + s < (if row < r then row else r) + 2 then d + s else (if row < r then row else r) + 2) = Ed u v (i + 1) (j + 1) := by
  rw [← Ed_turn u v i j hi hj r hr, hd, hrow, hs]
  generalize Ed u v i j + pr (v.getD i 0) (u.getD j 0) = a
  generalize Ed u v i (j + 1) = b
  split <;> split <;> omega
end Mine
end

section
namespace Mine
theorem least_step (w : World) (mean : ExcName → Option Value) (mg mb : Str → Option Value) (n : Nat)
   (ih : ∀ (x : Str) (tx : Tok) (y : Str) (ty : Tok), x.length < n → y.length ≤ 5 → Al x → Al y → SpV w mean mg mb 77 (n + 1) (8 * n + 8) [.str x tx, .str y ty] (fun t => .int (least (ls x) (ls y)) t)) (x : Str) (tx : Tok) (y : Str) (ty : Tok) (hx : x.length = n) (hn : n ≤ 2) (hy : y.length ≤ 5) (ax : Al x) (ay : Al y) :
   SpV w mean mg mb 77 (n + 2) (8 * n + 16) [.str x tx, .str y ty] (fun t => .int (least (ls x) (ls y)) t) := by
  unfold SpV
  k_fill
  intro news dp un gd cn cs a ccd cl outer A₀ base h₀ L m s Q E hB hF hX hN hT hcs hdp hun hret
  refine wpAny_call ?_
  w_on
  k_dflt (refine' code_def (binds := [(Str.ofString "word", .str x tx), (Str.ofString "run", .str y ty)]) ?k1 ?k2 ?k3 ?k4 ?k5 ?kA ?kF ?kK ?k6 ?k7 ?k8 ?k9 ?kB ?_ ?c2 ?c3 ?c4 ?c5)
  k_dflt (((case k1 | k2 | k3 | k4 | k5 => k_asm); (case kA | kF => exact rfl); (case kK => assumption); (case k6 | k7 => k_is); (case k8 => first | exact Mine.room_lt (by assumption) | ktr_room); (case k9 => exact BindsTo.of_eq rfl); (case c5 => decide); (case kB => exact locs rfl); (case c2 | c3 | c4 => exact rfl); k_whole))
  replace hdp := room hdp
  replace hun := room hun
  intro g' L' h' FG' F' N' B' X' T'
  (try dsimp only [List.reverse, List.reverseAux] at F' ⊢)
  k_fold
  (repeat' (first | (k_unfold; (try dsimp only)) | ((fail_if_success (with_reducible first | show wpAny _ _ (exec (Stmt.For _ _ _ _ _) _) _ _ _ | show wpAny _ _ (exec (Stmt.While _ _ _ _) _) _ _ _ | show wpAny _ _ (pyIter _) _ _ _ | show wpAny _ _ (call (Value.ref _) _ _) _ _ _ | show wpAny _ _ (eval (Expr.Subscript _ (Expr.Slice none (some (Expr.BoolOp _ _ _)) none _) _) _) _ _ _ | show wpAny _ _ (exec (Stmt.If _ [Stmt.Assign [Expr.Tuple _ _ _] _ _] _ _) _) _ _ _ | show wpAny _ _ (exec (Stmt.If (Expr.BoolOp _ _ _) [Stmt.Assign [Expr.Name _ _] (Expr.Subscript _ _ _) _] _ _) _) _ _ _)); walk1; (try dsimp only)) | ((fail_if_success (with_reducible first | show wpAny _ _ (exec (Stmt.For _ _ _ _ _) _) _ _ _ | show wpAny _ _ (exec (Stmt.While _ _ _ _) _) _ _ _ | show wpAny _ _ (pyIter _) _ _ _ | show wpAny _ _ (call (Value.ref _) _ _) _ _ _ | show wpAny _ _ (eval (Expr.Subscript _ (Expr.Slice none (some (Expr.BoolOp _ _ _)) none _) _) _) _ _ _ | show wpAny _ _ (exec (Stmt.If _ [Stmt.Assign [Expr.Tuple _ _ _] _ _] _ _) _) _ _ _ | show wpAny _ _ (exec (Stmt.If (Expr.BoolOp _ _ _) [Stmt.Assign [Expr.Name _ _] (Expr.Subscript _ _ _) _] _ _) _) _ _ _)); dsimp only; walk1) | (leave1; (try dsimp only)) | fail "no step"))
  · have hxe : (x == Str.ofString "") = true := by assumption
    have e : least (ls x) (ls y) = 2 * (y.length : Int) := by
      have : x = Str.ofString "" := by simpa using hxe
      subst this
      show 2 * ((ls y).length : Int) = _
      rw [ls_len]
    rw [e] at hret
    exact hret _ _ _ (by assumption) (by assumption)
  have hx1 : 1 ≤ x.length := by
    have hxe : (x == Str.ofString "") = false := by assumption
    rcases Nat.eq_zero_or_pos x.length with h | h
    · exfalso
      have : x = Str.ofString "" := ls_inj (by rw [List.eq_nil_of_length_eq_zero ((ls_len x).trans h)]; rfl)
      rw [this] at hxe
      exact absurd hxe (by decide)
    · exact h
  have hs1 : (Txt.slice x (some 1) none).length < n := by
    have := ls_len (Txt.slice x (some 1) none)
    rw [ls_from (by omega), List.length_drop, ls_len] at this
    simp only [Int.toNat_one] at this
    omega
  have as1 : Al (Txt.slice x (some 1) none) := ax.from (by omega)
  k_dflt (refine' SpV.use (ih _ _ _ _ hs1 hy as1 ay) ?k1 ?k2 ?k3 ?k4 ?k5 ?kK ?kd ?ku ?_)
  (((((case k1 | k2 | k3 | k4 | k5 => k_asm); (case kK => first | exact rfl | assumption); (case kd => first | exact Mine.room_up (by assumption) (by first | decide | omega) | exact Mine.room_0 (by assumption) (by first | decide | omega) | ktr_room); (case ku => first | exact Mine.room_up (by assumption) (by first | decide | omega) | exact Mine.room_0 (by assumption) (by first | decide | omega) | ktr_units))); intro t9 h9 tk9 F9 N9; (try dsimp only); (try k_fold)))
  (repeat' (first | (k_unfold; (try dsimp only)) | ((fail_if_success (with_reducible first | show wpAny _ _ (exec (Stmt.For _ _ _ _ _) _) _ _ _ | show wpAny _ _ (exec (Stmt.While _ _ _ _) _) _ _ _ | show wpAny _ _ (pyIter _) _ _ _ | show wpAny _ _ (call (Value.ref _) _ _) _ _ _ | show wpAny _ _ (eval (Expr.Subscript _ (Expr.Slice none (some (Expr.BoolOp _ _ _)) none _) _) _) _ _ _ | show wpAny _ _ (exec (Stmt.If _ [Stmt.Assign [Expr.Tuple _ _ _] _ _] _ _) _) _ _ _ | show wpAny _ _ (exec (Stmt.If (Expr.BoolOp _ _ _) [Stmt.Assign [Expr.Name _ _] (Expr.Subscript _ _ _) _] _ _) _) _ _ _)); walk1; (try dsimp only)) | ((fail_if_success (with_reducible first | show wpAny _ _ (exec (Stmt.For _ _ _ _ _) _) _ _ _ | show wpAny _ _ (exec (Stmt.While _ _ _ _) _) _ _ _ | show wpAny _ _ (pyIter _) _ _ _ | show wpAny _ _ (call (Value.ref _) _ _) _ _ _ | show wpAny _ _ (eval (Expr.Subscript _ (Expr.Slice none (some (Expr.BoolOp _ _ _)) none _) _) _) _ _ _ | show wpAny _ _ (exec (Stmt.If _ [Stmt.Assign [Expr.Tuple _ _ _] _ _] _ _) _) _ _ _ | show wpAny _ _ (exec (Stmt.If (Expr.BoolOp _ _ _) [Stmt.Assign [Expr.Name _ _] (Expr.Subscript _ _ _) _] _ _) _) _ _ _)); dsimp only; walk1) | (leave1; (try dsimp only)) | fail "no step"))
  rename Fr _ _ _ _ => lF'
  rename News _ _ _ _ => lN'
  with_unfolding_all refine' For_invVF lF' ?kfa ?kfb ?_
  · exact rfl
  · exact rfl
  (repeat' (first | (k_unfold; (try dsimp only)) | ((fail_if_success (with_reducible first | show wpAny _ _ (exec (Stmt.For _ _ _ _ _) _) _ _ _ | show wpAny _ _ (exec (Stmt.While _ _ _ _) _) _ _ _ | show wpAny _ _ (pyIter _) _ _ _ | show wpAny _ _ (call (Value.ref _) _ _) _ _ _ | show wpAny _ _ (eval (Expr.Subscript _ (Expr.Slice none (some (Expr.BoolOp _ _ _)) none _) _) _) _ _ _ | show wpAny _ _ (exec (Stmt.If _ [Stmt.Assign [Expr.Tuple _ _ _] _ _] _ _) _) _ _ _ | show wpAny _ _ (exec (Stmt.If (Expr.BoolOp _ _ _) [Stmt.Assign [Expr.Name _ _] (Expr.Subscript _ _ _) _] _ _) _) _ _ _)); walk1; (try dsimp only)) | ((fail_if_success (with_reducible first | show wpAny _ _ (exec (Stmt.For _ _ _ _ _) _) _ _ _ | show wpAny _ _ (exec (Stmt.While _ _ _ _) _) _ _ _ | show wpAny _ _ (pyIter _) _ _ _ | show wpAny _ _ (call (Value.ref _) _ _) _ _ _ | show wpAny _ _ (eval (Expr.Subscript _ (Expr.Slice none (some (Expr.BoolOp _ _ _)) none _) _) _) _ _ _ | show wpAny _ _ (exec (Stmt.If _ [Stmt.Assign [Expr.Tuple _ _ _] _ _] _ _) _) _ _ _ | show wpAny _ _ (exec (Stmt.If (Expr.BoolOp _ _ _) [Stmt.Assign [Expr.Name _ _] (Expr.Subscript _ _ _) _] _ _) _) _ _ _)); dsimp only; walk1) | (leave1; (try dsimp only)) | fail "no step"))
  rename Fr _ _ _ _ => lF'
  rename News _ _ _ _ => lN'
  rename IsRange _ _ _ _ _ _ _ _ => rgX
  refine led_name lN' ?_
  intro ll e
  subst e
  refine kst_range (σ := List Value × List Int × Nat) (fun c => (ll, listOf c.1.toArray c.2.2) :: news) (fun _ => []) (fun c => IntsAre c.1 c.2.1) []
    (fun pre c => c.2.1 = (2 + least ((ls x).drop 1) (ls y)) :: pre.map fun k => 2 * k + pr ((ls x).getD 0 0) ((ls y).getD k.toNat 0) + least ((ls x).drop 1) ((ls y).drop (k.toNat + 1)))
    ([_], [2 + least (ls (Txt.slice x (some 1) none)) (ls y)], 0) rfl rgX (small_one (by omega) (by omega) (by omega) (by omega)) (rangeSize_nat _ _) lF' lN' ?zf ?zk ?zp ?zturn ?zdone
  case zf => exact IntsAre.cons _ _ IntsAre.nil
  case zk => intro p hp; cases hp
  case zp => rw [ls_from (by omega)]; rfl
  case zturn =>
    clear lF' lN'
    intro c pre k t u h tk own hk hl hoff hfc hp F2 N2
    (try dsimp only at hoff ⊢)
    k_fold
    have F3 : Fr g' L' h (fun y_1 => if y_1 = Str.ofString "k" then some (Value.int k t) else if y_1 = Str.ofString "prices" then some (Value.ref ll) else List.lookup y_1 [(Str.ofString "run", Value.str y ty), (Str.ofString "word", Value.str x tx)]) := F2
    have N3 : News g' L' h ((ll, listOf c.1.toArray c.2.2) :: (news ++ own)) := N2
    clear F2 N2
    have hk0 : 0 ≤ k := by exact om24 hk
    have hk1 : k < y.length := by omega
    have hsy : (Txt.slice y (some (k + 1)) none).length ≤ 5 := Nat.le_trans (Txt.slice_le _ _ _) hy
    have asy : Al (Txt.slice y (some (k + 1)) none) := ay.from (by exact om25 hk)
    (repeat' (first | (k_unfold; (try dsimp only)) | ((fail_if_success (with_reducible first | show wpAny _ _ (exec (Stmt.For _ _ _ _ _) _) _ _ _ | show wpAny _ _ (exec (Stmt.While _ _ _ _) _) _ _ _ | show wpAny _ _ (pyIter _) _ _ _ | show wpAny _ _ (call (Value.ref _) _ _) _ _ _ | show wpAny _ _ (eval (Expr.Subscript _ (Expr.Slice none (some (Expr.BoolOp _ _ _)) none _) _) _) _ _ _ | show wpAny _ _ (exec (Stmt.If _ [Stmt.Assign [Expr.Tuple _ _ _] _ _] _ _) _) _ _ _ | show wpAny _ _ (exec (Stmt.If (Expr.BoolOp _ _ _) [Stmt.Assign [Expr.Name _ _] (Expr.Subscript _ _ _) _] _ _) _) _ _ _)); walk1; (try dsimp only)) | ((fail_if_success (with_reducible first | show wpAny _ _ (exec (Stmt.For _ _ _ _ _) _) _ _ _ | show wpAny _ _ (exec (Stmt.While _ _ _ _) _) _ _ _ | show wpAny _ _ (pyIter _) _ _ _ | show wpAny _ _ (call (Value.ref _) _ _) _ _ _ | show wpAny _ _ (eval (Expr.Subscript _ (Expr.Slice none (some (Expr.BoolOp _ _ _)) none _) _) _) _ _ _ | show wpAny _ _ (exec (Stmt.If _ [Stmt.Assign [Expr.Tuple _ _ _] _ _] _ _) _) _ _ _ | show wpAny _ _ (exec (Stmt.If (Expr.BoolOp _ _ _) [Stmt.Assign [Expr.Name _ _] (Expr.Subscript _ _ _) _] _ _) _) _ _ _)); dsimp only; walk1) | (leave1; (try dsimp only)) | fail "no step"))
    k_dflt (refine' SpV.use (price_spec _ _ _ _ _ _ _ _ (len_item _ _) (len_item _ _) (find_item ax (by omega) (by exact om26 hx hn hx1)) (find_item ay hk0 hk1)) ?k1 ?k2 ?k3 ?k4 ?k5 ?kK ?kd ?ku ?_)
    (((((case k1 | k2 | k3 | k4 | k5 => k_asm); (case kK => first | exact rfl | assumption); (case kd => first | exact Mine.room_up (by assumption) (by first | decide | omega) | exact Mine.room_0 (by assumption) (by first | decide | omega) | ktr_room); (case ku => first | exact Mine.room_up (by assumption) (by first | decide | omega) | exact Mine.room_0 (by assumption) (by first | decide | omega) | ktr_units))); intro t9 h9 tk9 F9 N9; (try dsimp only); (try k_fold)))
    (repeat' (first | (k_unfold; (try dsimp only)) | ((fail_if_success (with_reducible first | show wpAny _ _ (exec (Stmt.For _ _ _ _ _) _) _ _ _ | show wpAny _ _ (exec (Stmt.While _ _ _ _) _) _ _ _ | show wpAny _ _ (pyIter _) _ _ _ | show wpAny _ _ (call (Value.ref _) _ _) _ _ _ | show wpAny _ _ (eval (Expr.Subscript _ (Expr.Slice none (some (Expr.BoolOp _ _ _)) none _) _) _) _ _ _ | show wpAny _ _ (exec (Stmt.If _ [Stmt.Assign [Expr.Tuple _ _ _] _ _] _ _) _) _ _ _ | show wpAny _ _ (exec (Stmt.If (Expr.BoolOp _ _ _) [Stmt.Assign [Expr.Name _ _] (Expr.Subscript _ _ _) _] _ _) _) _ _ _)); walk1; (try dsimp only)) | ((fail_if_success (with_reducible first | show wpAny _ _ (exec (Stmt.For _ _ _ _ _) _) _ _ _ | show wpAny _ _ (exec (Stmt.While _ _ _ _) _) _ _ _ | show wpAny _ _ (pyIter _) _ _ _ | show wpAny _ _ (call (Value.ref _) _ _) _ _ _ | show wpAny _ _ (eval (Expr.Subscript _ (Expr.Slice none (some (Expr.BoolOp _ _ _)) none _) _) _) _ _ _ | show wpAny _ _ (exec (Stmt.If _ [Stmt.Assign [Expr.Tuple _ _ _] _ _] _ _) _) _ _ _ | show wpAny _ _ (exec (Stmt.If (Expr.BoolOp _ _ _) [Stmt.Assign [Expr.Name _ _] (Expr.Subscript _ _ _) _] _ _) _) _ _ _)); dsimp only; walk1) | (leave1; (try dsimp only)) | fail "no step"))
    k_dflt (refine' SpV.use (ih _ _ _ _ hs1 hsy as1 asy) ?k1 ?k2 ?k3 ?k4 ?k5 ?kK ?kd ?ku ?_)
    (((((case k1 | k2 | k3 | k4 | k5 => k_asm); (case kK => first | exact rfl | assumption); (case kd => first | exact Mine.room_up (by assumption) (by first | decide | omega) | exact Mine.room_0 (by assumption) (by first | decide | omega) | ktr_room); (case ku => first | exact Mine.room_up (by assumption) (by first | decide | omega) | exact Mine.room_0 (by assumption) (by first | decide | omega) | ktr_units))); intro t9 h9 tk9 F9 N9; (try dsimp only); (try k_fold)))
    (repeat' (first | (k_unfold; (try dsimp only)) | ((fail_if_success (with_reducible first | show wpAny _ _ (exec (Stmt.For _ _ _ _ _) _) _ _ _ | show wpAny _ _ (exec (Stmt.While _ _ _ _) _) _ _ _ | show wpAny _ _ (pyIter _) _ _ _ | show wpAny _ _ (call (Value.ref _) _ _) _ _ _ | show wpAny _ _ (eval (Expr.Subscript _ (Expr.Slice none (some (Expr.BoolOp _ _ _)) none _) _) _) _ _ _ | show wpAny _ _ (exec (Stmt.If _ [Stmt.Assign [Expr.Tuple _ _ _] _ _] _ _) _) _ _ _ | show wpAny _ _ (exec (Stmt.If (Expr.BoolOp _ _ _) [Stmt.Assign [Expr.Name _ _] (Expr.Subscript _ _ _) _] _ _) _) _ _ _)); walk1; (try dsimp only)) | ((fail_if_success (with_reducible first | show wpAny _ _ (exec (Stmt.For _ _ _ _ _) _) _ _ _ | show wpAny _ _ (exec (Stmt.While _ _ _ _) _) _ _ _ | show wpAny _ _ (pyIter _) _ _ _ | show wpAny _ _ (call (Value.ref _) _ _) _ _ _ | show wpAny _ _ (eval (Expr.Subscript _ (Expr.Slice none (some (Expr.BoolOp _ _ _)) none _) _) _) _ _ _ | show wpAny _ _ (exec (Stmt.If _ [Stmt.Assign [Expr.Tuple _ _ _] _ _] _ _) _) _ _ _ | show wpAny _ _ (exec (Stmt.If (Expr.BoolOp _ _ _) [Stmt.Assign [Expr.Name _ _] (Expr.Subscript _ _ _) _] _ _) _) _ _ _)); dsimp only; walk1) | (leave1; (try dsimp only)) | fail "no step"))
    rename Fr _ _ _ _ => F4
    rename News _ _ _ _ => N4
    have hcl : c.1.length ≤ 6 := by
      have := hfc.length
      rw [hp] at this
      simp at this
      omega
    refine append_K F4 N4 (Upd.head (by k_all)) ?_ (by simp only [List.size_toArray]; rw [sizeLine_eq]; exact om27 hcl)
    intro h6 F6 N6
    (repeat' (first | (k_unfold; (try dsimp only)) | ((fail_if_success (with_reducible first | show wpAny _ _ (exec (Stmt.For _ _ _ _ _) _) _ _ _ | show wpAny _ _ (exec (Stmt.While _ _ _ _) _) _ _ _ | show wpAny _ _ (pyIter _) _ _ _ | show wpAny _ _ (call (Value.ref _) _ _) _ _ _ | show wpAny _ _ (eval (Expr.Subscript _ (Expr.Slice none (some (Expr.BoolOp _ _ _)) none _) _) _) _ _ _ | show wpAny _ _ (exec (Stmt.If _ [Stmt.Assign [Expr.Tuple _ _ _] _ _] _ _) _) _ _ _ | show wpAny _ _ (exec (Stmt.If (Expr.BoolOp _ _ _) [Stmt.Assign [Expr.Name _ _] (Expr.Subscript _ _ _) _] _ _) _) _ _ _)); walk1; (try dsimp only)) | ((fail_if_success (with_reducible first | show wpAny _ _ (exec (Stmt.For _ _ _ _ _) _) _ _ _ | show wpAny _ _ (exec (Stmt.While _ _ _ _) _) _ _ _ | show wpAny _ _ (pyIter _) _ _ _ | show wpAny _ _ (call (Value.ref _) _ _) _ _ _ | show wpAny _ _ (eval (Expr.Subscript _ (Expr.Slice none (some (Expr.BoolOp _ _ _)) none _) _) _) _ _ _ | show wpAny _ _ (exec (Stmt.If _ [Stmt.Assign [Expr.Tuple _ _ _] _ _] _ _) _) _ _ _ | show wpAny _ _ (exec (Stmt.If (Expr.BoolOp _ _ _) [Stmt.Assign [Expr.Name _ _] (Expr.Subscript _ _ _) _] _ _) _) _ _ _)); dsimp only; walk1) | (leave1; (try dsimp only)) | fail "no step"))
    simp only [List.push_toArray] at N6
    obtain ⟨T, N7⟩ : ∃ T, News g' L' h6 ((ll, listOf (c.1 ++ [Value.int (2 * k + priceOf (Txt.item x 0) (Txt.item y k) + least (ls (Txt.slice x (some 1) none)) (ls (Txt.slice y (some (k + 1)) none))) T]).toArray (c.2.2 + 1)) :: (news ++ own)) := ⟨_, N6⟩
    refine kst_end (c.1 ++ [Value.int (2 * k + priceOf (Txt.item x 0) (Txt.item y k) + least (ls (Txt.slice x (some 1) none)) (ls (Txt.slice y (some (k + 1)) none))) T], c.2.1 ++ [2 * k + priceOf (Txt.item x 0) (Txt.item y k) + least (ls (Txt.slice x (some 1) none)) (ls (Txt.slice y (some (k + 1)) none))], c.2.2 + 1) F6 N7 ?_ ?_ rfl (IntsAre.append hfc (IntsAre.cons _ _ IntsAre.nil)) (fun _ hp => nomatch hp) ?_ ?_
    · intro p hp
      rcases List.mem_cons.mp hp with rfl | hp
      · exact .head _
      · exact .tail _ (sub_left p hp)
    · intro p hp
      exact .tail _ (sub_right p hp)
    · intro z h1 _ _
      simp [h1]
    · (try dsimp only)
      rw [hp, List.map_append, List.cons_append, price_item ax ay (by omega) (by exact om26 hx hn hx1) hk0 hk1, ls_from (by omega), ls_from (by exact om25 hk)]
      have e1 : (k + 1).toNat = k.toNat + 1 := tn1 hk0
      rw [e1]
      rfl
  case zdone =>
    clear lF' lN'
    intro c u h tk hfc hp F2 N2
    (try dsimp only at F2 N2 ⊢)
    have F3 : Fr g' L' h (fun y_1 => if y_1 = Str.ofString "k" then u y_1 else if y_1 = Str.ofString "prices" then some (Value.ref ll) else List.lookup y_1 [(Str.ofString "run", Value.str y ty), (Str.ofString "word", Value.str x tx)]) := F2
    have N3 : News g' L' h ((ll, listOf c.1.toArray c.2.2) :: news) := N2
    clear F2 N2
    (repeat' (first | (k_unfold; (try dsimp only)) | ((fail_if_success (with_reducible first | show wpAny _ _ (exec (Stmt.For _ _ _ _ _) _) _ _ _ | show wpAny _ _ (exec (Stmt.While _ _ _ _) _) _ _ _ | show wpAny _ _ (pyIter _) _ _ _ | show wpAny _ _ (call (Value.ref _) _ _) _ _ _ | show wpAny _ _ (eval (Expr.Subscript _ (Expr.Slice none (some (Expr.BoolOp _ _ _)) none _) _) _) _ _ _ | show wpAny _ _ (exec (Stmt.If _ [Stmt.Assign [Expr.Tuple _ _ _] _ _] _ _) _) _ _ _ | show wpAny _ _ (exec (Stmt.If (Expr.BoolOp _ _ _) [Stmt.Assign [Expr.Name _ _] (Expr.Subscript _ _ _) _] _ _) _) _ _ _)); walk1; (try dsimp only)) | ((fail_if_success (with_reducible first | show wpAny _ _ (exec (Stmt.For _ _ _ _ _) _) _ _ _ | show wpAny _ _ (exec (Stmt.While _ _ _ _) _) _ _ _ | show wpAny _ _ (pyIter _) _ _ _ | show wpAny _ _ (call (Value.ref _) _ _) _ _ _ | show wpAny _ _ (eval (Expr.Subscript _ (Expr.Slice none (some (Expr.BoolOp _ _ _)) none _) _) _) _ _ _ | show wpAny _ _ (exec (Stmt.If _ [Stmt.Assign [Expr.Tuple _ _ _] _ _] _ _) _) _ _ _ | show wpAny _ _ (exec (Stmt.If (Expr.BoolOp _ _ _) [Stmt.Assign [Expr.Name _ _] (Expr.Subscript _ _ _) _] _ _) _) _ _ _)); dsimp only; walk1) | (leave1; (try dsimp only)) | fail "no step"))
    refine min_list_N rfl F3 N3 (News.isList N3 (.head _)) hfc (by rw [hp]; simp) ?_
    intro h5 M5 t5 tk5 F5 N5 hm5 hl5
    rw [hp] at hm5 hl5
    have e := least_is hm5 hl5
    (repeat' (first | (k_unfold; (try dsimp only)) | ((fail_if_success (with_reducible first | show wpAny _ _ (exec (Stmt.For _ _ _ _ _) _) _ _ _ | show wpAny _ _ (exec (Stmt.While _ _ _ _) _) _ _ _ | show wpAny _ _ (pyIter _) _ _ _ | show wpAny _ _ (call (Value.ref _) _ _) _ _ _ | show wpAny _ _ (eval (Expr.Subscript _ (Expr.Slice none (some (Expr.BoolOp _ _ _)) none _) _) _) _ _ _ | show wpAny _ _ (exec (Stmt.If _ [Stmt.Assign [Expr.Tuple _ _ _] _ _] _ _) _) _ _ _ | show wpAny _ _ (exec (Stmt.If (Expr.BoolOp _ _ _) [Stmt.Assign [Expr.Name _ _] (Expr.Subscript _ _ _) _] _ _) _) _ _ _)); walk1; (try dsimp only)) | ((fail_if_success (with_reducible first | show wpAny _ _ (exec (Stmt.For _ _ _ _ _) _) _ _ _ | show wpAny _ _ (exec (Stmt.While _ _ _ _) _) _ _ _ | show wpAny _ _ (pyIter _) _ _ _ | show wpAny _ _ (call (Value.ref _) _ _) _ _ _ | show wpAny _ _ (eval (Expr.Subscript _ (Expr.Slice none (some (Expr.BoolOp _ _ _)) none _) _) _) _ _ _ | show wpAny _ _ (exec (Stmt.If _ [Stmt.Assign [Expr.Tuple _ _ _] _ _] _ _) _) _ _ _ | show wpAny _ _ (exec (Stmt.If (Expr.BoolOp _ _ _) [Stmt.Assign [Expr.Name _ _] (Expr.Subscript _ _ _) _] _ _) _) _ _ _)); dsimp only; walk1) | (leave1; (try dsimp only)) | fail "no step"))
    have e2 : least (ls x) (ls y) = M5 := by
      rw [e]
      obtain ⟨q, r, hqr⟩ : ∃ q r, ls x = q :: r := by
        cases hz : ls x with
        | nil => have := ls_len x; rw [hz] at this; simp at this; omega
        | cons q r => exact ⟨q, r, rfl⟩
      rw [hqr, least_cons]
      simp only [List.drop_succ_cons, List.drop_zero, List.getD_cons_zero]
      congr 1
      rw [ls_len]
      have : ((y.length : Int) - 0).toNat = y.length := by omega
      rw [this]
      simp only [rangeKs, List.map_map]
      apply List.map_congr_left
      intro k _
      simp
    rw [e2] at hret
    exact hret _ _ _ (by assumption) (cb_drop (by assumption) (fun _ h => .tail _ h))
theorem least_spec (w : World) (mean : ExcName → Option Value) (mg mb : Str → Option Value) (n : Nat) : ∀ (x : Str) (tx : Tok) (y : Str) (ty : Tok), x.length ≤ n → n ≤ 2 → y.length ≤ 5 → Al x → Al y →
    SpV w mean mg mb 77 (n + 2) (8 * n + 16) [.str x tx, .str y ty] (fun t => .int (least (ls x) (ls y)) t) := by
  induction n with
  | zero =>
    intro x tx y ty hx hn hy ax ay
    exact least_step w mean mg mb 0 (fun _ _ _ _ h => absurd h (Nat.not_lt_zero _)) x tx y ty (by omega) (by omega) hy ax ay
  | succ n ih =>
    intro x tx y ty hx hn hy ax ay
    by_cases h : x.length ≤ n
    · exact (ih x tx y ty h (by omega) hy ax ay).mono (by omega) (by omega)
    · exact least_step w mean mg mb (n + 1) (fun x' tx' y' ty' h' hy' ax' ay' => (ih x' tx' y' ty' (by omega) (by omega) hy' ax' ay').mono (by omega) (by omega)) x tx y ty (by omega) hn hy ax ay
end Mine
end

section
namespace Mine
/-- the frame's locals and the ledger at a state that has grown out of s -/
noncomputable def At (g : Heap) (L : Addr) (m : Str → Option Value) (news : List (Addr × Obj)) (s s' : Shared) : Prop := ∃ h tk, s' = { s with heap := h, toks := tk } ∧ Fr g L h m ∧ News g L h news
noncomputable abbrev levM (x : Str) (tx : Tok) (y : Str) (ty : Tok) (mc : Int) (tm : Tok) : Str → Option Value := fun z => List.lookup z [(Str.ofString "max_cost", Value.int mc tm), (Str.ofString "b", Value.str y ty), (Str.ofString "a", Value.str x tx)]
noncomputable def LevPre (g : Heap) (L : Addr) (news : List (Addr × Obj)) (x : Str) (tx : Tok) (y : Str) (ty : Tok) (mc : Int) (tm : Tok) (s : Shared) (f : Flow) (s' : Shared) : Prop :=
  f = .next ∧ ∃ (k : Int) (t : Tok), 0 ≤ k ∧ k ≤ x.length ∧ k ≤ y.length ∧ (ls x).take k.toNat = (ls y).take k.toNat ∧ At g L (fun z => if z = Str.ofString "pre" then some (Value.int k t) else levM x tx y ty mc tm z) news s s'
theorem drop_more {u v : List Nat} {j j' a b : Nat} (h : u.drop (u.length - j) = v.drop (v.length - j)) (hu : j < u.length) (hv : j < v.length) (hj : j' = j + 1) (ha : a = u.length - j') (hb : b = v.length - j') (e : u.getD a 0 = v.getD b 0) : u.drop (u.length - j') = v.drop (v.length - j') := by
  have key : ∀ w : List Nat, j < w.length → w.drop (w.length - j') = w.getD (w.length - j') 0 :: w.drop (w.length - j) := by
    intro w hw
    subst hj
    have h1 : w.length - (j + 1) < w.length := by omega
    rw [List.drop_eq_getElem_cons h1]
    have h2 : w.length - (j + 1) + 1 = w.length - j := by omega
    rw [h2]
    simp [List.getD, h1]
  rw [key u hu, key v hv, h, ← ha, ← hb, e]
noncomputable abbrev levB (x1 : Str) (t1 : Tok) (y1 : Str) (t2 : Tok) (mc : Int) (tm : Tok) (m : Str → Option Value) : Str → Option Value := fun z =>
  if z = Str.ofString "b" then some (Value.str y1 t2) else if z = Str.ofString "a" then some (Value.str x1 t1) else if z = Str.ofString "max_cost" then some (Value.int mc tm) else m z
theorem fr_levB {h₀ h : Heap} {L : Addr} {m : Str → Option Value} {x1 : Str} {t1 : Tok} {y1 : Str} {t2 : Tok} {mc : Int} {tm : Tok} (F : Fr h₀ L h m)
    (hb : m (Str.ofString "b") = some (Value.str y1 t2)) (ha : m (Str.ofString "a") = some (Value.str x1 t1)) (hm : m (Str.ofString "max_cost") = some (Value.int mc tm)) : Fr h₀ L h (levB x1 t1 y1 t2 mc tm m) :=
  fr_eq F fun _ => kstB_eq (ps := [(Str.ofString "b", Value.str y1 t2), (Str.ofString "a", Value.str x1 t1), (Str.ofString "max_cost", Value.int mc tm)]) (List.forall_mem_cons.mpr ⟨hb, List.forall_mem_cons.mpr ⟨ha, List.forall_mem_cons.mpr ⟨hm, fun _ h => nomatch h⟩⟩⟩) fun _ => rfl
theorem fr_postB {h₀ h : Heap} {L : Addr} {m : Str → Option Value} {x1 : Str} {t1 : Tok} {y1 : Str} {t2 : Tok} {mc : Int} {tm : Tok} {v : Value} (F : Fr h₀ L h m) (hp : m (Str.ofString "post") = some v)
    (hb : m (Str.ofString "b") = some (Value.str y1 t2)) (ha : m (Str.ofString "a") = some (Value.str x1 t1)) (hm : m (Str.ofString "max_cost") = some (Value.int mc tm)) : Fr h₀ L h (fun z => if z = Str.ofString "post" then some v else levB x1 t1 y1 t2 mc tm m z) :=
  fr_eq F fun _ => kstB_eq (ps := [(Str.ofString "post", v), (Str.ofString "b", Value.str y1 t2), (Str.ofString "a", Value.str x1 t1), (Str.ofString "max_cost", Value.int mc tm)]) (List.forall_mem_cons.mpr ⟨hp, List.forall_mem_cons.mpr ⟨hb, List.forall_mem_cons.mpr ⟨ha, List.forall_mem_cons.mpr ⟨hm, fun _ h => nomatch h⟩⟩⟩⟩) fun _ => rfl
theorem skipIf {z k : Str} {a b c : Option Value} (h : z ≠ k) (e : b = c) : (if z = k then a else b) = c := (if_neg h).trans e
theorem skipB {q : Bool} {a b c : Option Value} (h : q = false) (e : b = c) : (if q = true then a else b) = c := by subst h; exact e
theorem kstB3 {m : Str → Option Value} {z a b c : Str} {u v w : Value} {d : Option Value} (h1 : z ≠ a) (h2 : z ≠ b) (h3 : z ≠ c) (e : m z = d) : kstB m [(a, u), (b, v), (c, w)] z = d := skipIf h1 (skipIf h2 (skipIf h3 e))
theorem not_stored {l l' : List Str} {z : Str} (h : l.contains z = false) (hs : ∀ k ∈ l', k ∈ l) : l'.contains z = false := by
  cases e : l'.contains z with
  | false => rfl
  | true => rw [List.contains_iff_mem.mpr (hs z (List.contains_iff_mem.mp e))] at h; cases h
theorem ne_stored {l : List Str} {z k : Str} (h : l.contains z = false) (hk : k ∈ l) : z ≠ k := fun e => by
  subst e
  rw [List.contains_iff_mem.mpr hk] at h
  cases h
noncomputable def LevPost (g : Heap) (L : Addr) (news : List (Addr × Obj)) (x1 : Str) (t1 : Tok) (y1 : Str) (t2 : Tok) (mc : Int) (tm : Tok) (m0 : Str → Option Value) (s : Shared) (f : Flow) (s' : Shared) : Prop :=
  f = .next ∧ ∃ (p : Int) (tp : Tok), p ≤ 0 ∧ -(x1.length : Int) ≤ p ∧ -(y1.length : Int) ≤ p ∧ (ls x1).drop ((ls x1).length - (-p).toNat) = (ls y1).drop ((ls y1).length - (-p).toNat) ∧ At g L (fun z => if z = Str.ofString "post" then some (Value.int p tp) else levB x1 t1 y1 t2 mc tm m0 z) news s s'
noncomputable def SwapPost (g : Heap) (L : Addr) (news : List (Addr × Obj)) (d mc : Int) (tm : Tok) (s : Shared) (f : Flow) (s' : Shared) : Prop :=
  f = .next ∧ ∃ (x3 : Str) (t6 : Tok) (y3 : Str) (t7 : Tok) (m : Str → Option Value), x3.length ≤ y3.length ∧ 1 ≤ x3.length ∧ y3.length ≤ 8 ∧ Al x3 ∧ Al y3 ∧ d = D (ls x3) (ls y3) ∧ At g L (levB x3 t6 y3 t7 mc tm m) news s s'
theorem kst_one {m u : Str → Option Value} {k : Str} {v w : Value} (z : Str) : (if z = k then some v else m z) = kstB (fun z => if ([] : List Str).contains z = true then u z else if z = k then some w else m z) [(k, v)] z := by
  by_cases q : z = k
  · exact (if_pos q).trans (if_pos q).symm
  · exact (if_neg q).trans ((if_neg q).trans (if_neg q)).symm
structure LevO where
  vs : List Value
  rs : List Int
  e : Nat
  r : Int
  tr : Tok
structure LevI where
  vs : List Value
  rs : List Int
  e : Nat
  d : Int
  td : Tok
  r : Int
  tr : Tok
  mn : Int
  tn : Tok
noncomputable abbrev levR (rr : Addr) (x3 : Str) (t6 : Tok) (y3 : Str) (t7 : Tok) (mc : Int) (tm : Tok) (m : Str → Option Value) : Str → Option Value := fun z =>
  if z = Str.ofString "row" then some (Value.ref rr) else levB x3 t6 y3 t7 mc tm m z
noncomputable abbrev levSt : List Str := [Str.ofString "bchar", Str.ofString "distance", Str.ofString "minimum", Str.ofString "index", Str.ofString "substitute", Str.ofString "insert_delete"]
noncomputable abbrev levO (kk : Int) (tk0 : Tok) (r : Int) (tr : Tok) (u : Str → Option Value) (t8 : Tok) (m : Str → Option Value) : Str → Option Value := fun z =>
  if z = Str.ofString "bindex" then some (Value.int kk tk0) else if z = Str.ofString "result" then some (Value.int r tr) else if levSt.contains z then u z else if z = Str.ofString "result" then some (Value.int 0 t8) else m z
noncomputable abbrev levT (kk : Int) (y3 : Str) (tA tB tC : Tok) (m : Str → Option Value) : Str → Option Value := fun z =>
  if z = Str.ofString "minimum" then some (Value.int 9223372036854775807 tA) else if z = Str.ofString "result" then some (Value.int (kk * 2) tB) else if z = Str.ofString "distance" then some (Value.int (kk * 2) tB) else if z = Str.ofString "bchar" then some (Value.str (Txt.item y3 kk) tC) else m z
/-- what NAME[:post or None] hands back -/
noncomputable def CutPost (g : Heap) (L : Addr) (m : Str → Option Value) (news : List (Addr × Obj)) (x : Str) (p : Int) (s : Shared) (v : Value) (s' : Shared) : Prop :=
  ∃ z t, v = .str z t ∧ ls z = (ls x).take (p + x.length).toNat ∧ z.length ≤ 8 ∧ (z.length : Int) = p + x.length ∧ At g L m news s s'
theorem cut_neg {x : Str} {p : Int} (h0 : p ≤ 0) (h1 : -(x.length : Int) ≤ p) (h2 : p ≠ 0) : ls (Txt.slice x none (some p)) = (ls x).take (p + x.length).toNat := ls_toneg (by omega) h1
theorem cut_nil {x : Str} {p : Int} (h2 : p = 0) : ls (Txt.slice x none none) = (ls x).take (p + x.length).toNat := by
  subst h2
  rw [ls_nn, List.take_of_length_le]
  rw [ls_len]
  omega
theorem cut_len {x z : Str} {p : Int} (h0 : p ≤ 0) (h1 : -(x.length : Int) ≤ p) (hx : x.length ≤ 8) (h : ls z = (ls x).take (p + x.length).toNat) : z.length ≤ 8 ∧ (z.length : Int) = p + x.length := by
  have := congrArg List.length h
  rw [ls_len, List.length_take, ls_len] at this
  omega
theorem take_more {u v : List Nat} {k : Nat} (h : u.take k = v.take k) (hu : k < u.length) (hv : k < v.length) (e : u.getD k 0 = v.getD k 0) : u.take (k + 1) = v.take (k + 1) := by
  rw [List.take_add_one, List.take_add_one, h]
  have h1 : u[k]? = some (u.getD k 0) := by simp [List.getD, hu]
  have h2 : v[k]? = some (v.getD k 0) := by simp [List.getD, hv]
  rw [h1, h2, e]
theorem lev_spec (w : World) (mean : ExcName → Option Value) (mg mb : Str → Option Value) (x : Str) (tx : Tok) (y : Str) (ty : Tok) (mc : Int) (tm : Tok) (hx : x.length ≤ 8) (hy : y.length ≤ 8) (ax : Al x) (ay : Al y) (hmc : D (ls x) (ls y) ≤ mc + 1) (hmb : mc ≤ 100) :
   SpV w mean mg mb 28 2 24 [.str x tx, .str y ty, .int mc tm] (fun t => .int (D (ls x) (ls y)) t) := by
  unfold SpV
  k_fill
  intro news dp un gd cn cs a ccd cl outer A₀ base h₀ L m s Q E hB hF hX hN hT hcs hdp hun hret
  refine wpAny_call ?_
  w_on
  k_dflt (refine' code_def (binds := [(Str.ofString "a", .str x tx), (Str.ofString "b", .str y ty), (Str.ofString "max_cost", .int mc tm)]) ?k1 ?k2 ?k3 ?k4 ?k5 ?kA ?kF ?kK ?k6 ?k7 ?k8 ?k9 ?kB ?_ ?c2 ?c3 ?c4 ?c5)
  k_dflt (((case k1 | k2 | k3 | k4 | k5 => k_asm); (case kA | kF => exact rfl); (case kK => assumption); (case k6 | k7 => k_is); (case k8 => first | exact Mine.room_lt (by assumption) | ktr_room); (case k9 => exact BindsTo.of_eq rfl); (case c5 => decide); (case kB => exact locs rfl); (case c2 | c3 | c4 => exact rfl); k_whole))
  replace hdp := room hdp
  replace hun := room hun
  intro g' L' h' FG' F' N' B' X' T'
  (try dsimp only [List.reverse, List.reverseAux] at F' ⊢)
  k_fold
  (repeat' (first | (k_unfold; (try dsimp only)) | ((fail_if_success (with_reducible first | show wpAny _ _ (exec (Stmt.For _ _ _ _ _) _) _ _ _ | show wpAny _ _ (exec (Stmt.While _ _ _ _) _) _ _ _ | show wpAny _ _ (pyIter _) _ _ _ | show wpAny _ _ (call (Value.ref _) _ _) _ _ _ | show wpAny _ _ (eval (Expr.Subscript _ (Expr.Slice none (some (Expr.BoolOp _ _ _)) none _) _) _) _ _ _ | show wpAny _ _ (exec (Stmt.If _ [Stmt.Assign [Expr.Tuple _ _ _] _ _] _ _) _) _ _ _ | show wpAny _ _ (exec (Stmt.If (Expr.BoolOp _ _ _) [Stmt.Assign [Expr.Name _ _] (Expr.Subscript _ _ _) _] _ _) _) _ _ _)); walk1; (try dsimp only)) | ((fail_if_success (with_reducible first | show wpAny _ _ (exec (Stmt.For _ _ _ _ _) _) _ _ _ | show wpAny _ _ (exec (Stmt.While _ _ _ _) _) _ _ _ | show wpAny _ _ (pyIter _) _ _ _ | show wpAny _ _ (call (Value.ref _) _ _) _ _ _ | show wpAny _ _ (eval (Expr.Subscript _ (Expr.Slice none (some (Expr.BoolOp _ _ _)) none _) _) _) _ _ _ | show wpAny _ _ (exec (Stmt.If _ [Stmt.Assign [Expr.Tuple _ _ _] _ _] _ _) _) _ _ _ | show wpAny _ _ (exec (Stmt.If (Expr.BoolOp _ _ _) [Stmt.Assign [Expr.Name _ _] (Expr.Subscript _ _ _) _] _ _) _) _ _ _)); dsimp only; walk1) | (leave1; (try dsimp only)) | fail "no step"))
  · have hxe : (x == y) = true := by assumption
    have e : D (ls x) (ls y) = 0 := by
      have : x = y := by simpa using hxe
      subst this
      have := D_drop (ls x).length (ls x) (ls x) rfl
      rw [this]
      simp [D_nil]
    rw [e] at hret
    exact hret _ _ _ (by assumption) (by assumption)
  rename Fr _ _ _ _ => F1
  rename News _ _ _ _ => N1
  obtain ⟨t0, F2⟩ : ∃ t0, Fr g' L' _ (fun z => if z = Str.ofString "pre" then some (Value.int 0 t0) else levM x tx y ty mc tm z) := ⟨_, F1⟩
  clear F1
  refine wpAny_mono (Q := LevPre g' L' news x tx y ty mc tm s) ?_ ?_ (fun _ _ h => h)
  ·
    refine ksw_while (σ := Int × Tok) (fun _ => news) (fun c => [(Str.ofString "pre", .int c.1 c.2)]) (fun _ => True) [] (fun c => 0 ≤ c.1 ∧ c.1 ≤ x.length ∧ c.1 ≤ y.length ∧ (ls x).take c.1.toNat = (ls y).take c.1.toNat) (fun c => x.length - c.1.toNat) (0, t0) F2 N1 trivial ?zk ?zp ?zturn ?zE
    case zk => intro p hp; cases hp with | head => rfl | tail _ h => cases h
    case zp => exact ⟨by omega, by omega, by omega, rfl⟩
    case zE => passes_own
    case zturn =>
      clear F2 N1
      intro c u h tk _ hP F3 N2
      obtain ⟨hc0, hc1, hc2, hc3⟩ := hP
      replace F3 : Fr g' L' h (fun z => if z = Str.ofString "pre" then some (Value.int c.1 c.2) else levM x tx y ty mc tm z) := fr_eq F3 kst_one
      (try dsimp only at N2 ⊢)
      (repeat' (first | (k_unfold; (try dsimp only)) | ((fail_if_success (with_reducible first | show wpAny _ _ (exec (Stmt.For _ _ _ _ _) _) _ _ _ | show wpAny _ _ (exec (Stmt.While _ _ _ _) _) _ _ _ | show wpAny _ _ (pyIter _) _ _ _ | show wpAny _ _ (call (Value.ref _) _ _) _ _ _ | show wpAny _ _ (eval (Expr.Subscript _ (Expr.Slice none (some (Expr.BoolOp _ _ _)) none _) _) _) _ _ _ | show wpAny _ _ (exec (Stmt.If _ [Stmt.Assign [Expr.Tuple _ _ _] _ _] _ _) _) _ _ _ | show wpAny _ _ (exec (Stmt.If (Expr.BoolOp _ _ _) [Stmt.Assign [Expr.Name _ _] (Expr.Subscript _ _ _) _] _ _) _) _ _ _)); walk1; (try dsimp only)) | ((fail_if_success (with_reducible first | show wpAny _ _ (exec (Stmt.For _ _ _ _ _) _) _ _ _ | show wpAny _ _ (exec (Stmt.While _ _ _ _) _) _ _ _ | show wpAny _ _ (pyIter _) _ _ _ | show wpAny _ _ (call (Value.ref _) _ _) _ _ _ | show wpAny _ _ (eval (Expr.Subscript _ (Expr.Slice none (some (Expr.BoolOp _ _ _)) none _) _) _) _ _ _ | show wpAny _ _ (exec (Stmt.If _ [Stmt.Assign [Expr.Tuple _ _ _] _ _] _ _) _) _ _ _ | show wpAny _ _ (exec (Stmt.If (Expr.BoolOp _ _ _) [Stmt.Assign [Expr.Name _ _] (Expr.Subscript _ _ _) _] _ _) _) _ _ _)); dsimp only; walk1) | (leave1; (try dsimp only)) | fail "no step"))
      · rename Fr _ _ _ _ => F4
        obtain ⟨t5, F5⟩ : ∃ t5, Fr g' L' _ (fun z => if z = Str.ofString "pre" then some (Value.int (c.1 + 1) t5) else if z = Str.ofString "pre" then some (Value.int c.1 c.2) else levM x tx y ty mc tm z) := ⟨_, F4⟩
        have hie : (Txt.item x c.1 == Txt.item y c.1) = true := by assumption
        have hcx : c.1 < x.length := by omega
        have hcy : c.1 < y.length := by omega
        have hie2 : (ls x).getD c.1.toNat 0 = (ls y).getD c.1.toNat 0 := by
          have := congrArg ls (beq_iff_eq.mp hie)
          rw [ls_item hc0 hcx, ls_item hc0 hcy] at this
          simpa using this
        have e1 : (c.1 + 1).toNat = c.1.toNat + 1 := tn1 hc0
        refine ksw_end (c.1 + 1, t5) F5 (by assumption) (fun _ h => h) trivial ?_ ?_ ⟨by omega, by omega, by omega, ?_⟩ ?_
        · intro p hp; cases hp with | head => rfl | tail _ h => cases h
        · intro z h2 _
          have := h2 _ (List.mem_singleton.mpr rfl)
          simp [this]
        · rw [e1]
          exact take_more hc3 (by rw [ls_len]; exact om2 hc0 hcx) (by rw [ls_len]; exact om2 hc0 hcy) hie2
        · exact meas1 hc0 hcx
      all_goals exact ⟨rfl, c.1, c.2, hc0, hc1, hc2, hc3, _, _, rfl, by assumption, by assumption⟩
  intro f s' hq
  obtain ⟨rfl, k, t, hk0, hk1, hk2, hk3, h1, tk1, rfl, F3, N2⟩ := hq
  clear F2 N1
  (repeat' (first | (k_unfold; (try dsimp only)) | ((fail_if_success (with_reducible first | show wpAny _ _ (exec (Stmt.For _ _ _ _ _) _) _ _ _ | show wpAny _ _ (exec (Stmt.While _ _ _ _) _) _ _ _ | show wpAny _ _ (pyIter _) _ _ _ | show wpAny _ _ (call (Value.ref _) _ _) _ _ _ | show wpAny _ _ (eval (Expr.Subscript _ (Expr.Slice none (some (Expr.BoolOp _ _ _)) none _) _) _) _ _ _ | show wpAny _ _ (exec (Stmt.If _ [Stmt.Assign [Expr.Tuple _ _ _] _ _] _ _) _) _ _ _ | show wpAny _ _ (exec (Stmt.If (Expr.BoolOp _ _ _) [Stmt.Assign [Expr.Name _ _] (Expr.Subscript _ _ _) _] _ _) _) _ _ _)); walk1; (try dsimp only)) | ((fail_if_success (with_reducible first | show wpAny _ _ (exec (Stmt.For _ _ _ _ _) _) _ _ _ | show wpAny _ _ (exec (Stmt.While _ _ _ _) _) _ _ _ | show wpAny _ _ (pyIter _) _ _ _ | show wpAny _ _ (call (Value.ref _) _ _) _ _ _ | show wpAny _ _ (eval (Expr.Subscript _ (Expr.Slice none (some (Expr.BoolOp _ _ _)) none _) _) _) _ _ _ | show wpAny _ _ (exec (Stmt.If _ [Stmt.Assign [Expr.Tuple _ _ _] _ _] _ _) _) _ _ _ | show wpAny _ _ (exec (Stmt.If (Expr.BoolOp _ _ _) [Stmt.Assign [Expr.Name _ _] (Expr.Subscript _ _ _) _] _ _) _) _ _ _)); dsimp only; walk1) | (leave1; (try dsimp only)) | fail "no step"))
  rename Fr _ _ _ _ => F4
  rename News _ _ _ _ => N4
  obtain ⟨x1, t1, y1, t2, t3, m0, hx1, hy1, ax1, ay1, hD1, F5⟩ : ∃ (x1 : Str) (t1 : Tok) (y1 : Str) (t2 t3 : Tok) (m0 : Str → Option Value), x1.length ≤ 8 ∧ y1.length ≤ 8 ∧ Al x1 ∧ Al y1 ∧ D (ls x) (ls y) = D (ls x1) (ls y1) ∧
      Fr g' L' _ (fun z => if z = Str.ofString "post" then some (Value.int 0 t3) else levB x1 t1 y1 t2 mc tm m0 z) :=
    ⟨_, _, _, _, _, _, Nat.le_trans (Txt.slice_le _ _ _) hx, Nat.le_trans (Txt.slice_le _ _ _) hy, ax.from hk0, ay.from hk0, by rw [ls_from hk0, ls_from hk0]; exact D_drop _ _ _ hk3, fr_postB F4 rfl rfl rfl rfl⟩
  rw [hD1] at hmc hret
  clear F4 hk1 hk2 hk3 ax ay hx hy hD1
  refine wpAny_mono (Q := LevPost g' L' news x1 t1 y1 t2 mc tm m0 s) ?_ ?_ (fun _ _ h => h)
  ·
    refine ksw_while (σ := Int × Tok) (fun _ => news) (fun c => [(Str.ofString "post", .int c.1 c.2)]) (fun _ => True) [] (fun c => c.1 ≤ 0 ∧ -(x1.length : Int) ≤ c.1 ∧ -(y1.length : Int) ≤ c.1 ∧ (ls x1).drop ((ls x1).length - (-c.1).toNat) = (ls y1).drop ((ls y1).length - (-c.1).toNat)) (fun c => (x1.length + c.1).toNat) (0, t3) F5 N4 trivial ?zk2 ?zp2 ?zturn2 ?zE2
    case zk2 => intro p hp; cases hp with | head => rfl | tail _ h => cases h
    case zp2 => exact ⟨by omega, by omega, by omega, by simp⟩
    case zE2 => passes_own
    case zturn2 =>
      clear F5 N4
      intro c u h tk _ hP F3 N2
      obtain ⟨hc0, hc1, hc2, hc3⟩ := hP
      replace F3 : Fr g' L' h (fun z => if z = Str.ofString "post" then some (Value.int c.1 c.2) else levB x1 t1 y1 t2 mc tm m0 z) := fr_eq F3 kst_one
      (try dsimp only at N2 ⊢)
      (repeat' (first | (k_unfold; (try dsimp only)) | ((fail_if_success (with_reducible first | show wpAny _ _ (exec (Stmt.For _ _ _ _ _) _) _ _ _ | show wpAny _ _ (exec (Stmt.While _ _ _ _) _) _ _ _ | show wpAny _ _ (pyIter _) _ _ _ | show wpAny _ _ (call (Value.ref _) _ _) _ _ _ | show wpAny _ _ (eval (Expr.Subscript _ (Expr.Slice none (some (Expr.BoolOp _ _ _)) none _) _) _) _ _ _ | show wpAny _ _ (exec (Stmt.If _ [Stmt.Assign [Expr.Tuple _ _ _] _ _] _ _) _) _ _ _ | show wpAny _ _ (exec (Stmt.If (Expr.BoolOp _ _ _) [Stmt.Assign [Expr.Name _ _] (Expr.Subscript _ _ _) _] _ _) _) _ _ _)); walk1; (try dsimp only)) | ((fail_if_success (with_reducible first | show wpAny _ _ (exec (Stmt.For _ _ _ _ _) _) _ _ _ | show wpAny _ _ (exec (Stmt.While _ _ _ _) _) _ _ _ | show wpAny _ _ (pyIter _) _ _ _ | show wpAny _ _ (call (Value.ref _) _ _) _ _ _ | show wpAny _ _ (eval (Expr.Subscript _ (Expr.Slice none (some (Expr.BoolOp _ _ _)) none _) _) _) _ _ _ | show wpAny _ _ (exec (Stmt.If _ [Stmt.Assign [Expr.Tuple _ _ _] _ _] _ _) _) _ _ _ | show wpAny _ _ (exec (Stmt.If (Expr.BoolOp _ _ _) [Stmt.Assign [Expr.Name _ _] (Expr.Subscript _ _ _) _] _ _) _) _ _ _)); dsimp only; walk1) | (leave1; (try dsimp only)) | fail "no step"))
      refine wpAny_mono (Q := CutPost g' L' (fun z => if z = Str.ofString "post" then some (Value.int c.1 c.2) else levB x1 t1 y1 t2 mc tm m0 z) news x1 c.1 s) ?_ ?_ (fun _ _ h => h)
      · walk1
        (repeat' (first | (k_unfold; (try dsimp only)) | ((fail_if_success (with_reducible first | show wpAny _ _ (exec (Stmt.For _ _ _ _ _) _) _ _ _ | show wpAny _ _ (exec (Stmt.While _ _ _ _) _) _ _ _ | show wpAny _ _ (pyIter _) _ _ _ | show wpAny _ _ (call (Value.ref _) _ _) _ _ _ | show wpAny _ _ (eval (Expr.Subscript _ (Expr.Slice none (some (Expr.BoolOp _ _ _)) none _) _) _) _ _ _ | show wpAny _ _ (exec (Stmt.If _ [Stmt.Assign [Expr.Tuple _ _ _] _ _] _ _) _) _ _ _ | show wpAny _ _ (exec (Stmt.If (Expr.BoolOp _ _ _) [Stmt.Assign [Expr.Name _ _] (Expr.Subscript _ _ _) _] _ _) _) _ _ _)); walk1; (try dsimp only)) | ((fail_if_success (with_reducible first | show wpAny _ _ (exec (Stmt.For _ _ _ _ _) _) _ _ _ | show wpAny _ _ (exec (Stmt.While _ _ _ _) _) _ _ _ | show wpAny _ _ (pyIter _) _ _ _ | show wpAny _ _ (call (Value.ref _) _ _) _ _ _ | show wpAny _ _ (eval (Expr.Subscript _ (Expr.Slice none (some (Expr.BoolOp _ _ _)) none _) _) _) _ _ _ | show wpAny _ _ (exec (Stmt.If _ [Stmt.Assign [Expr.Tuple _ _ _] _ _] _ _) _) _ _ _ | show wpAny _ _ (exec (Stmt.If (Expr.BoolOp _ _ _) [Stmt.Assign [Expr.Name _ _] (Expr.Subscript _ _ _) _] _ _) _) _ _ _)); dsimp only; walk1) | (leave1; (try dsimp only)) | fail "no step"))
        · have e := cut_neg hc0 hc1 (by assumption)
          exact ⟨_, _, rfl, e, (cut_len hc0 hc1 hx1 e).1, (cut_len hc0 hc1 hx1 e).2, _, _, rfl, by assumption, by assumption⟩
        · have e : ls (Txt.slice x1 none none) = (ls x1).take (c.1 + x1.length).toNat := cut_nil (by omega)
          exact ⟨_, _, rfl, e, (cut_len hc0 hc1 hx1 e).1, (cut_len hc0 hc1 hx1 e).2, _, _, rfl, by assumption, by assumption⟩
      intro v s' hv
      obtain ⟨z, tz, rfl, hz, hz8, hzl, h5, tk5, rfl, F5, N5⟩ := hv
      clear F3 N2
      (repeat' (first | (k_unfold; (try dsimp only)) | ((fail_if_success (with_reducible first | show wpAny _ _ (exec (Stmt.For _ _ _ _ _) _) _ _ _ | show wpAny _ _ (exec (Stmt.While _ _ _ _) _) _ _ _ | show wpAny _ _ (pyIter _) _ _ _ | show wpAny _ _ (call (Value.ref _) _ _) _ _ _ | show wpAny _ _ (eval (Expr.Subscript _ (Expr.Slice none (some (Expr.BoolOp _ _ _)) none _) _) _) _ _ _ | show wpAny _ _ (exec (Stmt.If _ [Stmt.Assign [Expr.Tuple _ _ _] _ _] _ _) _) _ _ _ | show wpAny _ _ (exec (Stmt.If (Expr.BoolOp _ _ _) [Stmt.Assign [Expr.Name _ _] (Expr.Subscript _ _ _) _] _ _) _) _ _ _)); walk1; (try dsimp only)) | ((fail_if_success (with_reducible first | show wpAny _ _ (exec (Stmt.For _ _ _ _ _) _) _ _ _ | show wpAny _ _ (exec (Stmt.While _ _ _ _) _) _ _ _ | show wpAny _ _ (pyIter _) _ _ _ | show wpAny _ _ (call (Value.ref _) _ _) _ _ _ | show wpAny _ _ (eval (Expr.Subscript _ (Expr.Slice none (some (Expr.BoolOp _ _ _)) none _) _) _) _ _ _ | show wpAny _ _ (exec (Stmt.If _ [Stmt.Assign [Expr.Tuple _ _ _] _ _] _ _) _) _ _ _ | show wpAny _ _ (exec (Stmt.If (Expr.BoolOp _ _ _) [Stmt.Assign [Expr.Name _ _] (Expr.Subscript _ _ _) _] _ _) _) _ _ _)); dsimp only; walk1) | (leave1; (try dsimp only)) | fail "no step"))
      · refine wpAny_mono (Q := CutPost g' L' (fun z => if z = Str.ofString "post" then some (Value.int c.1 c.2) else levB x1 t1 y1 t2 mc tm m0 z) news y1 c.1 s) ?_ ?_ (fun _ _ h => h)
        · walk1
          (repeat' (first | (k_unfold; (try dsimp only)) | ((fail_if_success (with_reducible first | show wpAny _ _ (exec (Stmt.For _ _ _ _ _) _) _ _ _ | show wpAny _ _ (exec (Stmt.While _ _ _ _) _) _ _ _ | show wpAny _ _ (pyIter _) _ _ _ | show wpAny _ _ (call (Value.ref _) _ _) _ _ _ | show wpAny _ _ (eval (Expr.Subscript _ (Expr.Slice none (some (Expr.BoolOp _ _ _)) none _) _) _) _ _ _ | show wpAny _ _ (exec (Stmt.If _ [Stmt.Assign [Expr.Tuple _ _ _] _ _] _ _) _) _ _ _ | show wpAny _ _ (exec (Stmt.If (Expr.BoolOp _ _ _) [Stmt.Assign [Expr.Name _ _] (Expr.Subscript _ _ _) _] _ _) _) _ _ _)); walk1; (try dsimp only)) | ((fail_if_success (with_reducible first | show wpAny _ _ (exec (Stmt.For _ _ _ _ _) _) _ _ _ | show wpAny _ _ (exec (Stmt.While _ _ _ _) _) _ _ _ | show wpAny _ _ (pyIter _) _ _ _ | show wpAny _ _ (call (Value.ref _) _ _) _ _ _ | show wpAny _ _ (eval (Expr.Subscript _ (Expr.Slice none (some (Expr.BoolOp _ _ _)) none _) _) _) _ _ _ | show wpAny _ _ (exec (Stmt.If _ [Stmt.Assign [Expr.Tuple _ _ _] _ _] _ _) _) _ _ _ | show wpAny _ _ (exec (Stmt.If (Expr.BoolOp _ _ _) [Stmt.Assign [Expr.Name _ _] (Expr.Subscript _ _ _) _] _ _) _) _ _ _)); dsimp only; walk1) | (leave1; (try dsimp only)) | fail "no step"))
          · have e := cut_neg hc0 hc2 (by assumption)
            exact ⟨_, _, rfl, e, (cut_len hc0 hc2 hy1 e).1, (cut_len hc0 hc2 hy1 e).2, _, _, rfl, by assumption, by assumption⟩
          · have e : ls (Txt.slice y1 none none) = (ls y1).take (c.1 + y1.length).toNat := cut_nil (by omega)
            exact ⟨_, _, rfl, e, (cut_len hc0 hc2 hy1 e).1, (cut_len hc0 hc2 hy1 e).2, _, _, rfl, by assumption, by assumption⟩
        intro v s' hv
        obtain ⟨z2, tz2, rfl, hz2, hz82, hzl2, h6, tk6, rfl, F6, N6⟩ := hv
        clear F5 N5
        (repeat' (first | (k_unfold; (try dsimp only)) | ((fail_if_success (with_reducible first | show wpAny _ _ (exec (Stmt.For _ _ _ _ _) _) _ _ _ | show wpAny _ _ (exec (Stmt.While _ _ _ _) _) _ _ _ | show wpAny _ _ (pyIter _) _ _ _ | show wpAny _ _ (call (Value.ref _) _ _) _ _ _ | show wpAny _ _ (eval (Expr.Subscript _ (Expr.Slice none (some (Expr.BoolOp _ _ _)) none _) _) _) _ _ _ | show wpAny _ _ (exec (Stmt.If _ [Stmt.Assign [Expr.Tuple _ _ _] _ _] _ _) _) _ _ _ | show wpAny _ _ (exec (Stmt.If (Expr.BoolOp _ _ _) [Stmt.Assign [Expr.Name _ _] (Expr.Subscript _ _ _) _] _ _) _) _ _ _)); walk1; (try dsimp only)) | ((fail_if_success (with_reducible first | show wpAny _ _ (exec (Stmt.For _ _ _ _ _) _) _ _ _ | show wpAny _ _ (exec (Stmt.While _ _ _ _) _) _ _ _ | show wpAny _ _ (pyIter _) _ _ _ | show wpAny _ _ (call (Value.ref _) _ _) _ _ _ | show wpAny _ _ (eval (Expr.Subscript _ (Expr.Slice none (some (Expr.BoolOp _ _ _)) none _) _) _) _ _ _ | show wpAny _ _ (exec (Stmt.If _ [Stmt.Assign [Expr.Tuple _ _ _] _ _] _ _) _) _ _ _ | show wpAny _ _ (exec (Stmt.If (Expr.BoolOp _ _ _) [Stmt.Assign [Expr.Name _ _] (Expr.Subscript _ _ _) _] _ _) _) _ _ _)); dsimp only; walk1) | (leave1; (try dsimp only)) | fail "no step"))
        · rename Fr _ _ _ _ => F7
          obtain ⟨t5, F8⟩ : ∃ t5, Fr g' L' _ (fun z => if z = Str.ofString "post" then some (Value.int (c.1 - 1) t5) else if z = Str.ofString "post" then some (Value.int c.1 c.2) else levB x1 t1 y1 t2 mc tm m0 z) := ⟨_, F7⟩
          have hie : (Txt.item x1 (c.1 - 1) == Txt.item y1 (c.1 - 1)) = true := by assumption
          have hcx : -(x1.length : Int) ≤ c.1 - 1 := by omega
          have hcy : -(y1.length : Int) ≤ c.1 - 1 := by omega
          have hie2 : (ls x1).getD (c.1 - 1 + x1.length).toNat 0 = (ls y1).getD (c.1 - 1 + y1.length).toNat 0 := by
            have := congrArg ls (beq_iff_eq.mp hie)
            rw [ls_item_neg (by exact om34 hc0) hcx, ls_item_neg (by exact om34 hc0) hcy] at this
            simpa using this
          refine ksw_end (c.1 - 1, t5) F8 (by assumption) (fun _ h => h) trivial ?_ ?_ ⟨by omega, hcx, hcy, ?_⟩ ?_
          · intro p hp; cases hp with | head => rfl | tail _ h => cases h
          · intro z h2 _
            have := h2 _ (List.mem_singleton.mpr rfl)
            simp [this]
          · refine drop_more hc3 ?_ ?_ ?_ ?_ ?_ hie2
            · rw [ls_len]; exact ltneg hc0 hcx
            · rw [ls_len]; exact ltneg hc0 hcy
            · exact negsucc hc0
            · (try dsimp only); rw [ls_len]; exact cutN _ (by exact om35 hc0)
            · (try dsimp only); rw [ls_len]; exact cutN _ (by exact om35 hc0)
          · exact measneg hcx
        all_goals exact ⟨rfl, c.1, c.2, hc0, hc1, hc2, hc3, _, _, rfl, by assumption, by assumption⟩
      · exact ⟨rfl, c.1, c.2, hc0, hc1, hc2, hc3, _, _, rfl, by assumption, by assumption⟩
  intro f s' hq
  obtain ⟨rfl, p, tp, hp0, hp1, hp2, hp3, h1, tk1, rfl, F3, N2⟩ := hq
  clear F5 N4
  (repeat' (first | (k_unfold; (try dsimp only)) | ((fail_if_success (with_reducible first | show wpAny _ _ (exec (Stmt.For _ _ _ _ _) _) _ _ _ | show wpAny _ _ (exec (Stmt.While _ _ _ _) _) _ _ _ | show wpAny _ _ (pyIter _) _ _ _ | show wpAny _ _ (call (Value.ref _) _ _) _ _ _ | show wpAny _ _ (eval (Expr.Subscript _ (Expr.Slice none (some (Expr.BoolOp _ _ _)) none _) _) _) _ _ _ | show wpAny _ _ (exec (Stmt.If _ [Stmt.Assign [Expr.Tuple _ _ _] _ _] _ _) _) _ _ _ | show wpAny _ _ (exec (Stmt.If (Expr.BoolOp _ _ _) [Stmt.Assign [Expr.Name _ _] (Expr.Subscript _ _ _) _] _ _) _) _ _ _)); walk1; (try dsimp only)) | ((fail_if_success (with_reducible first | show wpAny _ _ (exec (Stmt.For _ _ _ _ _) _) _ _ _ | show wpAny _ _ (exec (Stmt.While _ _ _ _) _) _ _ _ | show wpAny _ _ (pyIter _) _ _ _ | show wpAny _ _ (call (Value.ref _) _ _) _ _ _ | show wpAny _ _ (eval (Expr.Subscript _ (Expr.Slice none (some (Expr.BoolOp _ _ _)) none _) _) _) _ _ _ | show wpAny _ _ (exec (Stmt.If _ [Stmt.Assign [Expr.Tuple _ _ _] _ _] _ _) _) _ _ _ | show wpAny _ _ (exec (Stmt.If (Expr.BoolOp _ _ _) [Stmt.Assign [Expr.Name _ _] (Expr.Subscript _ _ _) _] _ _) _) _ _ _)); dsimp only; walk1) | (leave1; (try dsimp only)) | fail "no step"))
  refine wpAny_mono (Q := CutPost g' L' (fun z => if z = Str.ofString "post" then some (Value.int p tp) else levB x1 t1 y1 t2 mc tm m0 z) news x1 p s) ?_ ?_ (fun _ _ h => h)
  ·
    walk1
    (repeat' (first | (k_unfold; (try dsimp only)) | ((fail_if_success (with_reducible first | show wpAny _ _ (exec (Stmt.For _ _ _ _ _) _) _ _ _ | show wpAny _ _ (exec (Stmt.While _ _ _ _) _) _ _ _ | show wpAny _ _ (pyIter _) _ _ _ | show wpAny _ _ (call (Value.ref _) _ _) _ _ _ | show wpAny _ _ (eval (Expr.Subscript _ (Expr.Slice none (some (Expr.BoolOp _ _ _)) none _) _) _) _ _ _ | show wpAny _ _ (exec (Stmt.If _ [Stmt.Assign [Expr.Tuple _ _ _] _ _] _ _) _) _ _ _ | show wpAny _ _ (exec (Stmt.If (Expr.BoolOp _ _ _) [Stmt.Assign [Expr.Name _ _] (Expr.Subscript _ _ _) _] _ _) _) _ _ _)); walk1; (try dsimp only)) | ((fail_if_success (with_reducible first | show wpAny _ _ (exec (Stmt.For _ _ _ _ _) _) _ _ _ | show wpAny _ _ (exec (Stmt.While _ _ _ _) _) _ _ _ | show wpAny _ _ (pyIter _) _ _ _ | show wpAny _ _ (call (Value.ref _) _ _) _ _ _ | show wpAny _ _ (eval (Expr.Subscript _ (Expr.Slice none (some (Expr.BoolOp _ _ _)) none _) _) _) _ _ _ | show wpAny _ _ (exec (Stmt.If _ [Stmt.Assign [Expr.Tuple _ _ _] _ _] _ _) _) _ _ _ | show wpAny _ _ (exec (Stmt.If (Expr.BoolOp _ _ _) [Stmt.Assign [Expr.Name _ _] (Expr.Subscript _ _ _) _] _ _) _) _ _ _)); dsimp only; walk1) | (leave1; (try dsimp only)) | fail "no step"))
    · have e := cut_neg hp0 hp1 (by assumption)
      exact ⟨_, _, rfl, e, (cut_len hp0 hp1 hx1 e).1, (cut_len hp0 hp1 hx1 e).2, _, _, rfl, by assumption, by assumption⟩
    · have e : ls (Txt.slice x1 none none) = (ls x1).take (p + x1.length).toNat := cut_nil (by omega)
      exact ⟨_, _, rfl, e, (cut_len hp0 hp1 hx1 e).1, (cut_len hp0 hp1 hx1 e).2, _, _, rfl, by assumption, by assumption⟩
  intro v s' hv
  obtain ⟨x2, t4, rfl, hz, hx2, hzl, h5, tk5, rfl, F5, N5⟩ := hv
  clear F3 N2
  (repeat' (first | (k_unfold; (try dsimp only)) | ((fail_if_success (with_reducible first | show wpAny _ _ (exec (Stmt.For _ _ _ _ _) _) _ _ _ | show wpAny _ _ (exec (Stmt.While _ _ _ _) _) _ _ _ | show wpAny _ _ (pyIter _) _ _ _ | show wpAny _ _ (call (Value.ref _) _ _) _ _ _ | show wpAny _ _ (eval (Expr.Subscript _ (Expr.Slice none (some (Expr.BoolOp _ _ _)) none _) _) _) _ _ _ | show wpAny _ _ (exec (Stmt.If _ [Stmt.Assign [Expr.Tuple _ _ _] _ _] _ _) _) _ _ _ | show wpAny _ _ (exec (Stmt.If (Expr.BoolOp _ _ _) [Stmt.Assign [Expr.Name _ _] (Expr.Subscript _ _ _) _] _ _) _) _ _ _)); walk1; (try dsimp only)) | ((fail_if_success (with_reducible first | show wpAny _ _ (exec (Stmt.For _ _ _ _ _) _) _ _ _ | show wpAny _ _ (exec (Stmt.While _ _ _ _) _) _ _ _ | show wpAny _ _ (pyIter _) _ _ _ | show wpAny _ _ (call (Value.ref _) _ _) _ _ _ | show wpAny _ _ (eval (Expr.Subscript _ (Expr.Slice none (some (Expr.BoolOp _ _ _)) none _) _) _) _ _ _ | show wpAny _ _ (exec (Stmt.If _ [Stmt.Assign [Expr.Tuple _ _ _] _ _] _ _) _) _ _ _ | show wpAny _ _ (exec (Stmt.If (Expr.BoolOp _ _ _) [Stmt.Assign [Expr.Name _ _] (Expr.Subscript _ _ _) _] _ _) _) _ _ _)); dsimp only; walk1) | (leave1; (try dsimp only)) | fail "no step"))
  rename Fr _ _ _ _ => F6
  rename News _ _ _ _ => N6
  refine wpAny_mono (Q := CutPost g' L' (fun z => if z = Str.ofString "a" then some (Value.str x2 t4) else if z = Str.ofString "post" then some (Value.int p tp) else levB x1 t1 y1 t2 mc tm m0 z) news y1 p s) ?_ ?_ (fun _ _ h => h)
  ·
    walk1
    (repeat' (first | (k_unfold; (try dsimp only)) | ((fail_if_success (with_reducible first | show wpAny _ _ (exec (Stmt.For _ _ _ _ _) _) _ _ _ | show wpAny _ _ (exec (Stmt.While _ _ _ _) _) _ _ _ | show wpAny _ _ (pyIter _) _ _ _ | show wpAny _ _ (call (Value.ref _) _ _) _ _ _ | show wpAny _ _ (eval (Expr.Subscript _ (Expr.Slice none (some (Expr.BoolOp _ _ _)) none _) _) _) _ _ _ | show wpAny _ _ (exec (Stmt.If _ [Stmt.Assign [Expr.Tuple _ _ _] _ _] _ _) _) _ _ _ | show wpAny _ _ (exec (Stmt.If (Expr.BoolOp _ _ _) [Stmt.Assign [Expr.Name _ _] (Expr.Subscript _ _ _) _] _ _) _) _ _ _)); walk1; (try dsimp only)) | ((fail_if_success (with_reducible first | show wpAny _ _ (exec (Stmt.For _ _ _ _ _) _) _ _ _ | show wpAny _ _ (exec (Stmt.While _ _ _ _) _) _ _ _ | show wpAny _ _ (pyIter _) _ _ _ | show wpAny _ _ (call (Value.ref _) _ _) _ _ _ | show wpAny _ _ (eval (Expr.Subscript _ (Expr.Slice none (some (Expr.BoolOp _ _ _)) none _) _) _) _ _ _ | show wpAny _ _ (exec (Stmt.If _ [Stmt.Assign [Expr.Tuple _ _ _] _ _] _ _) _) _ _ _ | show wpAny _ _ (exec (Stmt.If (Expr.BoolOp _ _ _) [Stmt.Assign [Expr.Name _ _] (Expr.Subscript _ _ _) _] _ _) _) _ _ _)); dsimp only; walk1) | (leave1; (try dsimp only)) | fail "no step"))
    · have e := cut_neg hp0 hp2 (by assumption)
      exact ⟨_, _, rfl, e, (cut_len hp0 hp2 hy1 e).1, (cut_len hp0 hp2 hy1 e).2, _, _, rfl, by assumption, by assumption⟩
    · have e : ls (Txt.slice y1 none none) = (ls y1).take (p + y1.length).toNat := cut_nil (by omega)
      exact ⟨_, _, rfl, e, (cut_len hp0 hp2 hy1 e).1, (cut_len hp0 hp2 hy1 e).2, _, _, rfl, by assumption, by assumption⟩
  intro v s' hv
  obtain ⟨y2, t5, rfl, hz2, hy2, hzl2, h6, tk6, rfl, F7, N7⟩ := hv
  clear F6 N6
  have hD2 : D (ls x1) (ls y1) = D (ls x2) (ls y2) := by
    rw [hz, hz2]
    have hj1 : (-p).toNat ≤ (ls x1).length := by rw [ls_len]; omega
    have hj2 : (-p).toNat ≤ (ls y1).length := by rw [ls_len]; omega
    have e1 : (p + x1.length).toNat = (ls x1).length - (-p).toNat := by rw [ls_len]; exact cutN _ hp0
    have e2 : (p + y1.length).toNat = (ls y1).length - (-p).toNat := by rw [ls_len]; exact cutN _ hp0
    rw [e1, e2]
    exact D_take _ _ _ hp3 hj1 hj2
  have ax2 : Al x2 := fun c hc => ax1 c (List.mem_of_mem_take (hz ▸ hc))
  have ay2 : Al y2 := fun c hc => ay1 c (List.mem_of_mem_take (hz2 ▸ hc))
  rw [hD2] at hmc hret
  clear hD2 hz hz2 hzl hzl2 hp3 ax1 ay1 hx1 hy1 hp0 hp1 hp2 hk0
  (repeat' (first | (k_unfold; (try dsimp only)) | ((fail_if_success (with_reducible first | show wpAny _ _ (exec (Stmt.For _ _ _ _ _) _) _ _ _ | show wpAny _ _ (exec (Stmt.While _ _ _ _) _) _ _ _ | show wpAny _ _ (pyIter _) _ _ _ | show wpAny _ _ (call (Value.ref _) _ _) _ _ _ | show wpAny _ _ (eval (Expr.Subscript _ (Expr.Slice none (some (Expr.BoolOp _ _ _)) none _) _) _) _ _ _ | show wpAny _ _ (exec (Stmt.If _ [Stmt.Assign [Expr.Tuple _ _ _] _ _] _ _) _) _ _ _ | show wpAny _ _ (exec (Stmt.If (Expr.BoolOp _ _ _) [Stmt.Assign [Expr.Name _ _] (Expr.Subscript _ _ _) _] _ _) _) _ _ _)); walk1; (try dsimp only)) | ((fail_if_success (with_reducible first | show wpAny _ _ (exec (Stmt.For _ _ _ _ _) _) _ _ _ | show wpAny _ _ (exec (Stmt.While _ _ _ _) _) _ _ _ | show wpAny _ _ (pyIter _) _ _ _ | show wpAny _ _ (call (Value.ref _) _ _) _ _ _ | show wpAny _ _ (eval (Expr.Subscript _ (Expr.Slice none (some (Expr.BoolOp _ _ _)) none _) _) _) _ _ _ | show wpAny _ _ (exec (Stmt.If _ [Stmt.Assign [Expr.Tuple _ _ _] _ _] _ _) _) _ _ _ | show wpAny _ _ (exec (Stmt.If (Expr.BoolOp _ _ _) [Stmt.Assign [Expr.Name _ _] (Expr.Subscript _ _ _) _] _ _) _) _ _ _)); dsimp only; walk1) | (leave1; (try dsimp only)) | fail "no step"))
  rotate_left
  iterate 2
    · have e : D (ls x2) (ls y2) = 2 * ((x2.length : Int) + y2.length) := by
        have hl : x2.length = 0 ∨ y2.length = 0 := by omega
        rcases hl with hl | hl
        · have : ls x2 = [] := List.eq_nil_of_length_eq_zero (by rw [ls_len]; omega)
          rw [this, D_nil, ls_len]; omega
        · have : ls y2 = [] := List.eq_nil_of_length_eq_zero (by rw [ls_len]; omega)
          rw [this, D_nil_r, ls_len]; omega
      rw [e] at hret
      exact hret _ _ _ (by assumption) (by assumption)
  rename Fr _ _ _ _ => F8
  rename News _ _ _ _ => N8
  obtain ⟨m1, F9⟩ : ∃ m1, Fr g' L' _ (levB x2 t4 y2 t5 mc tm m1) := ⟨_, fr_levB F8 rfl rfl rfl⟩
  clear F8
  rename Fr _ _ _ _ => F8
  refine wpAny_mono (Q := SwapPost g' L' news (D (ls x2) (ls y2)) mc tm s) ?_ ?_ (fun _ _ h => h)
  ·
    walk1
    (repeat' (first | (k_unfold; (try dsimp only)) | ((fail_if_success (with_reducible first | show wpAny _ _ (exec (Stmt.For _ _ _ _ _) _) _ _ _ | show wpAny _ _ (exec (Stmt.While _ _ _ _) _) _ _ _ | show wpAny _ _ (pyIter _) _ _ _ | show wpAny _ _ (call (Value.ref _) _ _) _ _ _ | show wpAny _ _ (eval (Expr.Subscript _ (Expr.Slice none (some (Expr.BoolOp _ _ _)) none _) _) _) _ _ _ | show wpAny _ _ (exec (Stmt.If _ [Stmt.Assign [Expr.Tuple _ _ _] _ _] _ _) _) _ _ _ | show wpAny _ _ (exec (Stmt.If (Expr.BoolOp _ _ _) [Stmt.Assign [Expr.Name _ _] (Expr.Subscript _ _ _) _] _ _) _) _ _ _)); walk1; (try dsimp only)) | ((fail_if_success (with_reducible first | show wpAny _ _ (exec (Stmt.For _ _ _ _ _) _) _ _ _ | show wpAny _ _ (exec (Stmt.While _ _ _ _) _) _ _ _ | show wpAny _ _ (pyIter _) _ _ _ | show wpAny _ _ (call (Value.ref _) _ _) _ _ _ | show wpAny _ _ (eval (Expr.Subscript _ (Expr.Slice none (some (Expr.BoolOp _ _ _)) none _) _) _) _ _ _ | show wpAny _ _ (exec (Stmt.If _ [Stmt.Assign [Expr.Tuple _ _ _] _ _] _ _) _) _ _ _ | show wpAny _ _ (exec (Stmt.If (Expr.BoolOp _ _ _) [Stmt.Assign [Expr.Name _ _] (Expr.Subscript _ _ _) _] _ _) _) _ _ _)); dsimp only; walk1) | (leave1; (try dsimp only)) | fail "no step"))
    · rename Fr _ _ _ _ => Fq
      exact ⟨rfl, y2, _, x2, _, _, by omega, by omega, hx2, ay2, ax2, D_symm _ _, _, _, rfl, fr_levB Fq rfl rfl rfl, cb_drop (by assumption) (fun _ h => .tail _ h)⟩
    · exact ⟨rfl, x2, t4, y2, t5, m1, by omega, by omega, hy2, ax2, ay2, rfl, _, _, rfl, by assumption, by assumption⟩
  intro f s' hq
  obtain ⟨rfl, x3, t6, y3, t7, m2, hlen, hx3, hy3, ax3, ay3, hD3, h7, tk7, rfl, F9, N9⟩ := hq
  rw [hD3] at hmc hret
  clear F8 N8 hD3 ax2 ay2 hx2 hy2
  (repeat' (first | (k_unfold; (try dsimp only)) | ((fail_if_success (with_reducible first | show wpAny _ _ (exec (Stmt.For _ _ _ _ _) _) _ _ _ | show wpAny _ _ (exec (Stmt.While _ _ _ _) _) _ _ _ | show wpAny _ _ (pyIter _) _ _ _ | show wpAny _ _ (call (Value.ref _) _ _) _ _ _ | show wpAny _ _ (eval (Expr.Subscript _ (Expr.Slice none (some (Expr.BoolOp _ _ _)) none _) _) _) _ _ _ | show wpAny _ _ (exec (Stmt.If _ [Stmt.Assign [Expr.Tuple _ _ _] _ _] _ _) _) _ _ _ | show wpAny _ _ (exec (Stmt.If (Expr.BoolOp _ _ _) [Stmt.Assign [Expr.Name _ _] (Expr.Subscript _ _ _) _] _ _) _) _ _ _)); walk1; (try dsimp only)) | ((fail_if_success (with_reducible first | show wpAny _ _ (exec (Stmt.For _ _ _ _ _) _) _ _ _ | show wpAny _ _ (exec (Stmt.While _ _ _ _) _) _ _ _ | show wpAny _ _ (pyIter _) _ _ _ | show wpAny _ _ (call (Value.ref _) _ _) _ _ _ | show wpAny _ _ (eval (Expr.Subscript _ (Expr.Slice none (some (Expr.BoolOp _ _ _)) none _) _) _) _ _ _ | show wpAny _ _ (exec (Stmt.If _ [Stmt.Assign [Expr.Tuple _ _ _] _ _] _ _) _) _ _ _ | show wpAny _ _ (exec (Stmt.If (Expr.BoolOp _ _ _) [Stmt.Assign [Expr.Name _ _] (Expr.Subscript _ _ _) _] _ _) _) _ _ _)); dsimp only; walk1) | (leave1; (try dsimp only)) | fail "no step"))
  · have e : D (ls x3) (ls y3) = mc + 1 := by
      have := (D_diff (ls x3) (ls y3)).1
      rw [ls_len, ls_len] at this
      omega
    rw [e] at hret
    exact hret _ _ _ (by assumption) (by assumption)
  rename Fr _ _ _ _ => F10
  rename News _ _ _ _ => N10
  rename IsRange _ _ _ _ _ _ _ _ => rgX
  (try dsimp only at rgX)
  refine list_range rfl F10 N10 rgX (row_small _ hx3 (by omega)).1 (row_small _ hx3 (by omega)).2 (by omega) ?_
  intro rr us e8 h8 tk8 F11 N11 hrr hus
  clear F10 N10
  (repeat' (first | (k_unfold; (try dsimp only)) | ((fail_if_success (with_reducible first | show wpAny _ _ (exec (Stmt.For _ _ _ _ _) _) _ _ _ | show wpAny _ _ (exec (Stmt.While _ _ _ _) _) _ _ _ | show wpAny _ _ (pyIter _) _ _ _ | show wpAny _ _ (call (Value.ref _) _ _) _ _ _ | show wpAny _ _ (eval (Expr.Subscript _ (Expr.Slice none (some (Expr.BoolOp _ _ _)) none _) _) _) _ _ _ | show wpAny _ _ (exec (Stmt.If _ [Stmt.Assign [Expr.Tuple _ _ _] _ _] _ _) _) _ _ _ | show wpAny _ _ (exec (Stmt.If (Expr.BoolOp _ _ _) [Stmt.Assign [Expr.Name _ _] (Expr.Subscript _ _ _) _] _ _) _) _ _ _)); walk1; (try dsimp only)) | ((fail_if_success (with_reducible first | show wpAny _ _ (exec (Stmt.For _ _ _ _ _) _) _ _ _ | show wpAny _ _ (exec (Stmt.While _ _ _ _) _) _ _ _ | show wpAny _ _ (pyIter _) _ _ _ | show wpAny _ _ (call (Value.ref _) _ _) _ _ _ | show wpAny _ _ (eval (Expr.Subscript _ (Expr.Slice none (some (Expr.BoolOp _ _ _)) none _) _) _) _ _ _ | show wpAny _ _ (exec (Stmt.If _ [Stmt.Assign [Expr.Tuple _ _ _] _ _] _ _) _) _ _ _ | show wpAny _ _ (exec (Stmt.If (Expr.BoolOp _ _ _) [Stmt.Assign [Expr.Name _ _] (Expr.Subscript _ _ _) _] _ _) _) _ _ _)); dsimp only; walk1) | (leave1; (try dsimp only)) | fail "no step"))
  rename Fr _ _ _ _ => F12
  rename News _ _ _ _ => N12
  obtain ⟨t8, F13⟩ : ∃ t8, Fr g' L' _ (fun z => if z = Str.ofString "result" then some (Value.int 0 t8) else levR rr x3 t6 y3 t7 mc tm m2 z) := ⟨_, F12⟩
  with_unfolding_all refine' For_invVF F13 ?kfa ?kfb ?_
  · exact rfl
  · exact rfl
  clear F12
  (repeat' (first | (k_unfold; (try dsimp only)) | ((fail_if_success (with_reducible first | show wpAny _ _ (exec (Stmt.For _ _ _ _ _) _) _ _ _ | show wpAny _ _ (exec (Stmt.While _ _ _ _) _) _ _ _ | show wpAny _ _ (pyIter _) _ _ _ | show wpAny _ _ (call (Value.ref _) _ _) _ _ _ | show wpAny _ _ (eval (Expr.Subscript _ (Expr.Slice none (some (Expr.BoolOp _ _ _)) none _) _) _) _ _ _ | show wpAny _ _ (exec (Stmt.If _ [Stmt.Assign [Expr.Tuple _ _ _] _ _] _ _) _) _ _ _ | show wpAny _ _ (exec (Stmt.If (Expr.BoolOp _ _ _) [Stmt.Assign [Expr.Name _ _] (Expr.Subscript _ _ _) _] _ _) _) _ _ _)); walk1; (try dsimp only)) | ((fail_if_success (with_reducible first | show wpAny _ _ (exec (Stmt.For _ _ _ _ _) _) _ _ _ | show wpAny _ _ (exec (Stmt.While _ _ _ _) _) _ _ _ | show wpAny _ _ (pyIter _) _ _ _ | show wpAny _ _ (call (Value.ref _) _ _) _ _ _ | show wpAny _ _ (eval (Expr.Subscript _ (Expr.Slice none (some (Expr.BoolOp _ _ _)) none _) _) _) _ _ _ | show wpAny _ _ (exec (Stmt.If _ [Stmt.Assign [Expr.Tuple _ _ _] _ _] _ _) _) _ _ _ | show wpAny _ _ (exec (Stmt.If (Expr.BoolOp _ _ _) [Stmt.Assign [Expr.Name _ _] (Expr.Subscript _ _ _) _] _ _) _) _ _ _)); dsimp only; walk1) | (leave1; (try dsimp only)) | fail "no step"))
  rename Fr _ _ _ _ => F14
  rename News _ _ _ _ => N14
  rename IsRange _ _ _ _ _ _ _ _ => rgY
  (try dsimp only at rgY)
  clear rgX
  refine kst_range (σ := LevO) (fun c => (rr, listOf c.vs.toArray c.e) :: news) (fun c => [(Str.ofString "result", .int c.r c.tr)]) (fun c => IntsAre c.vs c.rs)
    [Str.ofString "bchar", Str.ofString "distance", Str.ofString "minimum", Str.ofString "index", Str.ofString "substitute", Str.ofString "insert_delete"]
    (fun pre c => c.rs = (List.range x3.length).map (fun q => Ed (ls x3) (ls y3) pre.length (q + 1)) ∧ (pre.length ≠ 0 → c.r = Ed (ls x3) (ls y3) pre.length x3.length))
    ⟨us, _, e8, 0, t8⟩ rfl rgY (small_one (by omega) (by omega) (by omega) (by omega)) (rangeSize_nat _ _) F14 N14 hus ?wk ?wp ?wturn ?wdone
  case wk => intro p hp; cases hp with | head => rfl | tail _ h => cases h
  case wp =>
    refine ⟨?_, fun h => absurd rfl h⟩
    (try dsimp only)
    apply List.map_congr_left
    intro q hq
    have hq' := List.mem_range.mp hq
    rw [List.length_nil, Ed_row0 _ _ _ (by rw [ls_len]; exact om5 hq')]
    omega
  case wdone =>
    clear F14 N14
    intro c u h tk hfc hp F15 N15
    obtain ⟨hp1, hp2⟩ := hp
    (try dsimp only at N15 ⊢)
    (repeat' (first | (k_unfold; (try dsimp only)) | ((fail_if_success (with_reducible first | show wpAny _ _ (exec (Stmt.For _ _ _ _ _) _) _ _ _ | show wpAny _ _ (exec (Stmt.While _ _ _ _) _) _ _ _ | show wpAny _ _ (pyIter _) _ _ _ | show wpAny _ _ (call (Value.ref _) _ _) _ _ _ | show wpAny _ _ (eval (Expr.Subscript _ (Expr.Slice none (some (Expr.BoolOp _ _ _)) none _) _) _) _ _ _ | show wpAny _ _ (exec (Stmt.If _ [Stmt.Assign [Expr.Tuple _ _ _] _ _] _ _) _) _ _ _ | show wpAny _ _ (exec (Stmt.If (Expr.BoolOp _ _ _) [Stmt.Assign [Expr.Name _ _] (Expr.Subscript _ _ _) _] _ _) _) _ _ _)); walk1; (try dsimp only)) | ((fail_if_success (with_reducible first | show wpAny _ _ (exec (Stmt.For _ _ _ _ _) _) _ _ _ | show wpAny _ _ (exec (Stmt.While _ _ _ _) _) _ _ _ | show wpAny _ _ (pyIter _) _ _ _ | show wpAny _ _ (call (Value.ref _) _ _) _ _ _ | show wpAny _ _ (eval (Expr.Subscript _ (Expr.Slice none (some (Expr.BoolOp _ _ _)) none _) _) _) _ _ _ | show wpAny _ _ (exec (Stmt.If _ [Stmt.Assign [Expr.Tuple _ _ _] _ _] _ _) _) _ _ _ | show wpAny _ _ (exec (Stmt.If (Expr.BoolOp _ _ _) [Stmt.Assign [Expr.Name _ _] (Expr.Subscript _ _ _) _] _ _) _) _ _ _)); dsimp only; walk1) | (leave1; (try dsimp only)) | fail "no step"))
    have e : D (ls x3) (ls y3) = c.r := by
      have e1 : ((y3.length : Int) - 0).toNat = y3.length := by omega
      rw [e1, rangeKs_length] at hp2
      rw [hp2 (by omega), ← Ed_end, ls_len, ls_len]
    rw [e] at hret
    exact hret _ _ _ (by assumption) (cb_drop (by assumption) (fun _ h => .tail _ h))
  case wturn =>
    clear F14 N14
    intro c pre kk tk0 u h tk own hkk hll hoff hfc hp F15 N15
    obtain ⟨hp1, hp2⟩ := hp
    (try dsimp only at hoff N15 ⊢)
    k_fold
    replace F15 : Fr g' L' h (levO kk tk0 c.r c.tr u t8 (levR rr x3 t6 y3 t7 mc tm m2)) := F15
    replace N15 : News g' L' h ((rr, listOf c.vs.toArray c.e) :: (news ++ own)) := N15
    have hk0 : 0 ≤ kk := by exact om24 hkk
    have hk1 : kk < y3.length := by omega
    (repeat' (first | (k_unfold; (try dsimp only)) | ((fail_if_success (with_reducible first | show wpAny _ _ (exec (Stmt.For _ _ _ _ _) _) _ _ _ | show wpAny _ _ (exec (Stmt.While _ _ _ _) _) _ _ _ | show wpAny _ _ (pyIter _) _ _ _ | show wpAny _ _ (call (Value.ref _) _ _) _ _ _ | show wpAny _ _ (eval (Expr.Subscript _ (Expr.Slice none (some (Expr.BoolOp _ _ _)) none _) _) _) _ _ _ | show wpAny _ _ (exec (Stmt.If _ [Stmt.Assign [Expr.Tuple _ _ _] _ _] _ _) _) _ _ _ | show wpAny _ _ (exec (Stmt.If (Expr.BoolOp _ _ _) [Stmt.Assign [Expr.Name _ _] (Expr.Subscript _ _ _) _] _ _) _) _ _ _)); walk1; (try dsimp only)) | ((fail_if_success (with_reducible first | show wpAny _ _ (exec (Stmt.For _ _ _ _ _) _) _ _ _ | show wpAny _ _ (exec (Stmt.While _ _ _ _) _) _ _ _ | show wpAny _ _ (pyIter _) _ _ _ | show wpAny _ _ (call (Value.ref _) _ _) _ _ _ | show wpAny _ _ (eval (Expr.Subscript _ (Expr.Slice none (some (Expr.BoolOp _ _ _)) none _) _) _) _ _ _ | show wpAny _ _ (exec (Stmt.If _ [Stmt.Assign [Expr.Tuple _ _ _] _ _] _ _) _) _ _ _ | show wpAny _ _ (exec (Stmt.If (Expr.BoolOp _ _ _) [Stmt.Assign [Expr.Name _ _] (Expr.Subscript _ _ _) _] _ _) _) _ _ _)); dsimp only; walk1) | (leave1; (try dsimp only)) | fail "no step"))
    rename Fr _ _ _ _ => F16
    rename News _ _ _ _ => N16
    obtain ⟨tA, tB, tC, F17⟩ : ∃ tA tB tC, Fr g' L' _ (levT kk y3 tA tB tC (levO kk tk0 c.r c.tr u t8 (levR rr x3 t6 y3 t7 mc tm m2))) := ⟨_, _, _, F16⟩
    clear F16
    with_unfolding_all refine' For_invVF F17 ?kga ?kgb ?_
    · exact rfl
    · exact rfl
    (repeat' (first | (k_unfold; (try dsimp only)) | ((fail_if_success (with_reducible first | show wpAny _ _ (exec (Stmt.For _ _ _ _ _) _) _ _ _ | show wpAny _ _ (exec (Stmt.While _ _ _ _) _) _ _ _ | show wpAny _ _ (pyIter _) _ _ _ | show wpAny _ _ (call (Value.ref _) _ _) _ _ _ | show wpAny _ _ (eval (Expr.Subscript _ (Expr.Slice none (some (Expr.BoolOp _ _ _)) none _) _) _) _ _ _ | show wpAny _ _ (exec (Stmt.If _ [Stmt.Assign [Expr.Tuple _ _ _] _ _] _ _) _) _ _ _ | show wpAny _ _ (exec (Stmt.If (Expr.BoolOp _ _ _) [Stmt.Assign [Expr.Name _ _] (Expr.Subscript _ _ _) _] _ _) _) _ _ _)); walk1; (try dsimp only)) | ((fail_if_success (with_reducible first | show wpAny _ _ (exec (Stmt.For _ _ _ _ _) _) _ _ _ | show wpAny _ _ (exec (Stmt.While _ _ _ _) _) _ _ _ | show wpAny _ _ (pyIter _) _ _ _ | show wpAny _ _ (call (Value.ref _) _ _) _ _ _ | show wpAny _ _ (eval (Expr.Subscript _ (Expr.Slice none (some (Expr.BoolOp _ _ _)) none _) _) _) _ _ _ | show wpAny _ _ (exec (Stmt.If _ [Stmt.Assign [Expr.Tuple _ _ _] _ _] _ _) _) _ _ _ | show wpAny _ _ (exec (Stmt.If (Expr.BoolOp _ _ _) [Stmt.Assign [Expr.Name _ _] (Expr.Subscript _ _ _) _] _ _) _) _ _ _)); dsimp only; walk1) | (leave1; (try dsimp only)) | fail "no step"))
    rename Fr _ _ _ _ => F18
    rename News _ _ _ _ => N18
    rename IsRange _ _ _ _ _ _ _ _ => rgZ
    (try dsimp only at rgZ)
    have hkn : kk.toNat = pre.length := by exact om69 hkk
    refine kst_range (σ := LevI) (fun c => (rr, listOf c.vs.toArray c.e) :: (news ++ own)) (fun c => [(Str.ofString "distance", .int c.d c.td), (Str.ofString "result", .int c.r c.tr), (Str.ofString "minimum", .int c.mn c.tn)]) (fun c => IntsAre c.vs c.rs)
      [Str.ofString "substitute", Str.ofString "insert_delete"]
      (fun pr2 c => c.rs = (List.range x3.length).map (fun q => if q < pr2.length then Ed (ls x3) (ls y3) (pre.length + 1) (q + 1) else Ed (ls x3) (ls y3) pre.length (q + 1)) ∧
        c.d = Ed (ls x3) (ls y3) pre.length pr2.length ∧ (c.r = if pr2.length = 0 then 2 * (pre.length : Int) else Ed (ls x3) (ls y3) (pre.length + 1) pr2.length) ∧ ∀ q, q < pr2.length → c.mn ≤ Ed (ls x3) (ls y3) (pre.length + 1) (q + 1))
      ⟨c.vs, c.rs, c.e, kk * 2, tB, kk * 2, tB, 9223372036854775807, tA⟩ rfl rgZ (small_one (by omega) (by omega) (by omega) (by omega)) (rangeSize_nat _ _) F18 N18 hfc ?vk ?vp ?vturn ?vdone
    case vk => kst_all
    case vp =>
      refine ⟨?_, ?_, ?_, ?_⟩
      · (try dsimp only); rw [hp1]; simp
      · (try dsimp only); rw [List.length_nil, Ed_zero _ _ _ (by rw [ls_len]; omega)]; exact om70 hkk
      · (try dsimp only); rw [List.length_nil, if_pos rfl]; exact om70 hkk
      · intro q hq; exact absurd hq (Nat.not_lt_zero _)
    case vdone =>
      clear F18 N18
      intro c2 u2 h2 tk2 hfc2 hp F19 N19
      obtain ⟨hq1, hq2, hq3, hq4⟩ := hp
      (try dsimp only at N19 ⊢)
      have e1 : ((x3.length : Int) - 0).toNat = x3.length := by exact om71 hx3
      rw [e1, rangeKs_length] at hq1 hq2 hq3 hq4
      replace F19 : Fr g' L' h2 (fun z => if z = Str.ofString "index" then u2 z else kstB (fun z => if List.contains [Str.ofString "substitute", Str.ofString "insert_delete"] z then u2 z else levT kk y3 tA tB tC (levO kk tk0 c.r c.tr u t8 (levR rr x3 t6 y3 t7 mc tm m2)) z) [(Str.ofString "distance", Value.int c2.d c2.td), (Str.ofString "result", Value.int c2.r c2.tr), (Str.ofString "minimum", Value.int c2.mn c2.tn)] z) := F19
      replace N19 : News g' L' h2 ((rr, listOf c2.vs.toArray c2.e) :: (news ++ own)) := N19
      (repeat' (first | (k_unfold; (try dsimp only)) | ((fail_if_success (with_reducible first | show wpAny _ _ (exec (Stmt.For _ _ _ _ _) _) _ _ _ | show wpAny _ _ (exec (Stmt.While _ _ _ _) _) _ _ _ | show wpAny _ _ (pyIter _) _ _ _ | show wpAny _ _ (call (Value.ref _) _ _) _ _ _ | show wpAny _ _ (eval (Expr.Subscript _ (Expr.Slice none (some (Expr.BoolOp _ _ _)) none _) _) _) _ _ _ | show wpAny _ _ (exec (Stmt.If _ [Stmt.Assign [Expr.Tuple _ _ _] _ _] _ _) _) _ _ _ | show wpAny _ _ (exec (Stmt.If (Expr.BoolOp _ _ _) [Stmt.Assign [Expr.Name _ _] (Expr.Subscript _ _ _) _] _ _) _) _ _ _)); walk1; (try dsimp only)) | ((fail_if_success (with_reducible first | show wpAny _ _ (exec (Stmt.For _ _ _ _ _) _) _ _ _ | show wpAny _ _ (exec (Stmt.While _ _ _ _) _) _ _ _ | show wpAny _ _ (pyIter _) _ _ _ | show wpAny _ _ (call (Value.ref _) _ _) _ _ _ | show wpAny _ _ (eval (Expr.Subscript _ (Expr.Slice none (some (Expr.BoolOp _ _ _)) none _) _) _) _ _ _ | show wpAny _ _ (exec (Stmt.If _ [Stmt.Assign [Expr.Tuple _ _ _] _ _] _ _) _) _ _ _ | show wpAny _ _ (exec (Stmt.If (Expr.BoolOp _ _ _) [Stmt.Assign [Expr.Name _ _] (Expr.Subscript _ _ _) _] _ _) _) _ _ _)); dsimp only; walk1) | (leave1; (try dsimp only)) | fail "no step"))
      · have e : D (ls x3) (ls y3) = mc + 1 := by
          have := Ed_over (ls x3) (ls y3) pre.length (by rw [ls_len]; exact om73 hkk hk1 hkn) (by rw [ls_len]; exact om74 hx3 e1) c2.mn (by rw [ls_len]; exact hq4)
          omega
        rw [e] at hret
        exact hret _ _ _ (by assumption) (cb_drop (by assumption) (fun _ h => .tail _ (sub_left _ h)))
      · refine kst_end ⟨c2.vs, c2.rs, c2.e, c2.r, c2.tr⟩ F19 N19 ?_ ?_ rfl hfc2 ?_ ?_ ?_
        · intro p hp
          rcases List.mem_cons.mp hp with rfl | hp
          · exact .head _
          · exact .tail _ (sub_left p hp)
        · intro p hp
          exact .tail _ (sub_right p hp)
        · kst_all
        · intro z h1 h2 h3
          have hr : z ≠ Str.ofString "result" := h2 _ (.head _)
          have hd : z ≠ Str.ofString "distance" := ne_stored h3 (.tail _ (.head _))
          have hm : z ≠ Str.ofString "minimum" := ne_stored h3 (.tail _ (.tail _ (.head _)))
          have hs : [Str.ofString "substitute", Str.ofString "insert_delete"].contains z = false := not_stored h3 (fun _ h => .tail _ (.tail _ (.tail _ (.tail _ h))))
          exact skipIf (ne_stored h3 (.tail _ (.tail _ (.tail _ (.head _))))) (kstB3 hd hr hm (skipB hs (skipIf hm (skipIf hr (skipIf hd (skipIf (ne_stored h3 (.head _)) (skipIf h1 (skipIf hr (skipB h3 rfl)))))))))
        · rw [List.length_append, List.length_singleton]
          refine ⟨?_, fun _ => ?_⟩
          · (try dsimp only)
            rw [hq1]
            apply List.map_congr_left
            intro q hq
            rw [if_pos (List.mem_range.mp hq)]
          · (try dsimp only)
            rw [hq3, if_neg (by exact om75 hx3 e1)]
    case vturn =>
      clear F18 N18
      intro c2 pr2 jj tj u2 h2 tk2 own2 hjj hll2 hoff2 hfc2 hp F19 N19
      obtain ⟨hq1, hq2, hq3, hq4⟩ := hp
      (try dsimp only at hoff2 N19 ⊢)
      k_fold
      have hj0 : 0 ≤ jj := by exact om24 hjj
      have hj1 : jj < x3.length := by exact om77 hx3 hjj hll2
      have hrl : c2.rs.length = x3.length := by rw [hq1]; simp
      (repeat' (first | (k_unfold; (try dsimp only)) | ((fail_if_success (with_reducible first | show wpAny _ _ (exec (Stmt.For _ _ _ _ _) _) _ _ _ | show wpAny _ _ (exec (Stmt.While _ _ _ _) _) _ _ _ | show wpAny _ _ (pyIter _) _ _ _ | show wpAny _ _ (call (Value.ref _) _ _) _ _ _ | show wpAny _ _ (eval (Expr.Subscript _ (Expr.Slice none (some (Expr.BoolOp _ _ _)) none _) _) _) _ _ _ | show wpAny _ _ (exec (Stmt.If _ [Stmt.Assign [Expr.Tuple _ _ _] _ _] _ _) _) _ _ _ | show wpAny _ _ (exec (Stmt.If (Expr.BoolOp _ _ _) [Stmt.Assign [Expr.Name _ _] (Expr.Subscript _ _ _) _] _ _) _) _ _ _)); walk1; (try dsimp only)) | ((fail_if_success (with_reducible first | show wpAny _ _ (exec (Stmt.For _ _ _ _ _) _) _ _ _ | show wpAny _ _ (exec (Stmt.While _ _ _ _) _) _ _ _ | show wpAny _ _ (pyIter _) _ _ _ | show wpAny _ _ (call (Value.ref _) _ _) _ _ _ | show wpAny _ _ (eval (Expr.Subscript _ (Expr.Slice none (some (Expr.BoolOp _ _ _)) none _) _) _) _ _ _ | show wpAny _ _ (exec (Stmt.If _ [Stmt.Assign [Expr.Tuple _ _ _] _ _] _ _) _) _ _ _ | show wpAny _ _ (exec (Stmt.If (Expr.BoolOp _ _ _) [Stmt.Assign [Expr.Name _ _] (Expr.Subscript _ _ _) _] _ _) _) _ _ _)); dsimp only; walk1) | (leave1; (try dsimp only)) | fail "no step"))
      k_dflt (refine' SpV.use (sub_spec _ _ _ _ _ _ _ _ (len_item _ _) (len_item _ _)) ?k1 ?k2 ?k3 ?k4 ?k5 ?kK ?kd ?ku ?_)
      (((((case k1 | k2 | k3 | k4 | k5 => k_asm); (case kK => first | exact rfl | assumption); (case kd => first | exact Mine.room_up (by assumption) (by first | decide | omega) | exact Mine.room_0 (by assumption) (by first | decide | omega) | ktr_room); (case ku => first | exact Mine.room_up (by assumption) (by first | decide | omega) | exact Mine.room_0 (by assumption) (by first | decide | omega) | ktr_units))); intro t9 h9 tk9 F9 N9; (try dsimp only); (try k_fold)))
      (repeat' (first | (k_unfold; (try dsimp only)) | ((fail_if_success (with_reducible first | show wpAny _ _ (exec (Stmt.For _ _ _ _ _) _) _ _ _ | show wpAny _ _ (exec (Stmt.While _ _ _ _) _) _ _ _ | show wpAny _ _ (pyIter _) _ _ _ | show wpAny _ _ (call (Value.ref _) _ _) _ _ _ | show wpAny _ _ (eval (Expr.Subscript _ (Expr.Slice none (some (Expr.BoolOp _ _ _)) none _) _) _) _ _ _ | show wpAny _ _ (exec (Stmt.If _ [Stmt.Assign [Expr.Tuple _ _ _] _ _] _ _) _) _ _ _ | show wpAny _ _ (exec (Stmt.If (Expr.BoolOp _ _ _) [Stmt.Assign [Expr.Name _ _] (Expr.Subscript _ _ _) _] _ _) _) _ _ _)); walk1; (try dsimp only)) | ((fail_if_success (with_reducible first | show wpAny _ _ (exec (Stmt.For _ _ _ _ _) _) _ _ _ | show wpAny _ _ (exec (Stmt.While _ _ _ _) _) _ _ _ | show wpAny _ _ (pyIter _) _ _ _ | show wpAny _ _ (call (Value.ref _) _ _) _ _ _ | show wpAny _ _ (eval (Expr.Subscript _ (Expr.Slice none (some (Expr.BoolOp _ _ _)) none _) _) _) _ _ _ | show wpAny _ _ (exec (Stmt.If _ [Stmt.Assign [Expr.Tuple _ _ _] _ _] _ _) _) _ _ _ | show wpAny _ _ (exec (Stmt.If (Expr.BoolOp _ _ _) [Stmt.Assign [Expr.Name _ _] (Expr.Subscript _ _ _) _] _ _) _) _ _ _)); dsimp only; walk1) | (leave1; (try dsimp only)) | fail "no step"))
      all_goals
        have ej : jj.toNat = pr2.length := by exact om69 hjj
        have hgt : c2.rs.getD jj.toNat 0 = Ed (ls x3) (ls y3) pre.length (pr2.length + 1) := by
          rw [hq1, ej]
          exact get_row _ _ (fun q => Ed (ls x3) (ls y3) (pre.length + 1) (q + 1)) (fun q => Ed (ls x3) (ls y3) pre.length (q + 1)) (by omega)
        have hRES := Ed_walk (ls x3) (ls y3) pre.length pr2.length (by rw [ls_len]; exact om73 hkk hk1 hkn) (by rw [ls_len]; omega) c2.r c2.d (subCost (Txt.item y3 kk) (Txt.item x3 jj)) (c2.rs.getD jj.toNat 0) hq3 hq2 hgt (by
          rw [sub_item ay3 ax3 hk0 hk1 hj0 hj1, hkn, ej])
        rename Fr _ _ _ _ => F20
        rename News _ _ _ _ => N20
        rename IntsAre _ _ => hI20
        rw [hRES] at F20 N20 hI20
        have hset : c2.rs.set jj.toNat (Ed (ls x3) (ls y3) (pre.length + 1) (pr2.length + 1)) = (List.range x3.length).map (fun q => if q < pr2.length + 1 then Ed (ls x3) (ls y3) (pre.length + 1) (q + 1) else Ed (ls x3) (ls y3) pre.length (q + 1)) := by
          rw [hq1, ej]
          exact set_row _ _ (fun q => Ed (ls x3) (ls y3) (pre.length + 1) (q + 1)) (fun q => Ed (ls x3) (ls y3) pre.length (q + 1))
        rw [hset] at hI20
        obtain ⟨T, N21, hI21⟩ : ∃ T, News g' L' _ ((rr, listOf (c2.vs.set jj.toNat (Value.int (Ed (ls x3) (ls y3) (pre.length + 1) (pr2.length + 1)) T)).toArray c2.e) :: ((news ++ own) ++ own2)) ∧ IntsAre (c2.vs.set jj.toNat (Value.int (Ed (ls x3) (ls y3) (pre.length + 1) (pr2.length + 1)) T)) ((List.range x3.length).map (fun q => if q < pr2.length + 1 then Ed (ls x3) (ls y3) (pre.length + 1) (q + 1) else Ed (ls x3) (ls y3) pre.length (q + 1))) := ⟨_, N20, hI20⟩
      · have hlt : Ed (ls x3) (ls y3) (pre.length + 1) (pr2.length + 1) < c2.mn := by rw [← hRES]; assumption
        refine' kst_end ⟨c2.vs.set jj.toNat (Value.int (Ed (ls x3) (ls y3) (pre.length + 1) (pr2.length + 1)) T), (List.range x3.length).map (fun q => if q < pr2.length + 1 then Ed (ls x3) (ls y3) (pre.length + 1) (q + 1) else Ed (ls x3) (ls y3) pre.length (q + 1)), c2.e, c2.rs.getD jj.toNat 0, _, Ed (ls x3) (ls y3) (pre.length + 1) (pr2.length + 1), _, Ed (ls x3) (ls y3) (pre.length + 1) (pr2.length + 1), _⟩ F20 N21 ?y1 ?y2 ?y3 ?y4 ?y5 ?y6 ?y7
        case y5 => kst_all
        case y1 => exact List.forall_mem_cons.mpr ⟨List.Mem.head _, fun p hp => .tail _ (sub_left p hp)⟩
        case y2 => exact fun p hp => .tail _ (sub_right p hp)
        case y3 => rfl
        case y4 => exact hI21
        case y6 =>
          intro z h1 h2 h3
          have hd : z ≠ Str.ofString "distance" := h2 _ (.head _)
          have hr : z ≠ Str.ofString "result" := h2 _ (.tail _ (.head _))
          have hm : z ≠ Str.ofString "minimum" := h2 _ (.tail _ (.tail _ (.head _)))
          exact skipIf hm (skipIf hr (skipIf (ne_stored h3 (.tail _ (.head _))) (skipIf hd (skipIf (ne_stored h3 (.head _)) (skipIf h1 (kstB3 hd hr hm (skipB h3 rfl)))))))
        case y7 =>
          rw [List.length_append, List.length_singleton]
          refine ⟨rfl, hgt, (if_neg (Nat.succ_ne_zero _)).symm, fun q hq => ?_⟩
          (try dsimp only)
          by_cases hqq : q < pr2.length
          · have := hq4 q hqq; omega
          · have : q = pr2.length := by exact om86 ej hq hqq
            subst this; exact Int.le_refl _
      · have hlt : ¬ Ed (ls x3) (ls y3) (pre.length + 1) (pr2.length + 1) < c2.mn := by rw [← hRES]; assumption
        refine' kst_end ⟨c2.vs.set jj.toNat (Value.int (Ed (ls x3) (ls y3) (pre.length + 1) (pr2.length + 1)) T), (List.range x3.length).map (fun q => if q < pr2.length + 1 then Ed (ls x3) (ls y3) (pre.length + 1) (q + 1) else Ed (ls x3) (ls y3) pre.length (q + 1)), c2.e, c2.rs.getD jj.toNat 0, _, Ed (ls x3) (ls y3) (pre.length + 1) (pr2.length + 1), _, c2.mn, _⟩ F20 N21 ?y1 ?y2 ?y3 ?y4 ?y5 ?y6 ?y7
        case y5 => kst_all
        case y1 => exact List.forall_mem_cons.mpr ⟨List.Mem.head _, fun p hp => .tail _ (sub_left p hp)⟩
        case y2 => exact fun p hp => .tail _ (sub_right p hp)
        case y3 => rfl
        case y4 => exact hI21
        case y6 =>
          intro z h1 h2 h3
          have hd : z ≠ Str.ofString "distance" := h2 _ (.head _)
          have hr : z ≠ Str.ofString "result" := h2 _ (.tail _ (.head _))
          have hm : z ≠ Str.ofString "minimum" := h2 _ (.tail _ (.tail _ (.head _)))
          exact (skipIf hr (skipIf (ne_stored h3 (.tail _ (.head _))) (skipIf hd (skipIf (ne_stored h3 (.head _)) (skipIf h1 (kstB3 hd hr hm (skipB h3 rfl)))))))
        case y7 =>
          rw [List.length_append, List.length_singleton]
          refine ⟨rfl, hgt, (if_neg (Nat.succ_ne_zero _)).symm, fun q hq => ?_⟩
          (try dsimp only)
          by_cases hqq : q < pr2.length
          · have := hq4 q hqq; omega
          · have : q = pr2.length := by exact om86 ej hq hqq
            subst this; omega
end Mine
end

section
namespace Mine
theorem ints_name {vs : List Value} {ns : List Int} {P : Prop} (_N : IntsAre vs ns) (k : ∀ us, us = vs → P) : P := k vs rfl
theorem of_allLt {d : Addr} : ∀ {l : List (Addr × Obj)}, AllLt d l → ∀ p ∈ l, p.1 < d := ktn_ltOf
/-- a turn's end: the state c' again, the iterator's object as it was -/
noncomputable def LoopEnd {σ : Type} (g : Heap) (L : Addr) (Led : σ → List (Addr × Obj)) (mp : σ → Str → Option Value) (gs : σ → Array GenState) (P : Nat → σ → Prop) (I : Addr) (o : Obj) (i : Nat) (s : Shared) (Q : Flow → Shared → Prop) (f : Flow) (s₂ : Shared) : Prop := match f with
  | .ret v => Q (.ret v) s₂
  | .brk => Q .next s₂
  | _ => ∃ c' h' tk' m' nx, s₂ = { s with heap := h', gens := gs c', toks := tk' } ∧ Fr g L h' m' ∧ (∀ y, mp c' y = m' y) ∧ News g L h' nx ∧ (∀ p ∈ Led c', p ∈ nx) ∧ (I, o) ∈ nx ∧ (∀ p ∈ Led c', p.1 ≠ I) ∧ P (i + 1) c'
section
variable {prog : Program} {w : World} {A : Around} {E : Value → Shared → Prop} {s : Shared} {env : Env} {g : Heap} {L : Addr} {x : Str} {body : List Stmt} {Q : Flow → Shared → Prop}
theorem sameBut_news {h h' : Heap} {I : Addr} {led : List (Addr × Obj)} (N : News g L h led) (hs : Heap.SameBut I h h') (hI : ∀ p ∈ led, p.1 ≠ I) : News g L h' led := fun p hp => ⟨(hs.2 _ (hI p hp)).trans (N p hp).1, (N p hp).2⟩
theorem sameBut_fr {h h' : Heap} {I : Addr} {m : Str → Option Value} (F : Fr g L h m) (hs : Heap.SameBut I h h') (hL : L ≠ I) (hg : g.get? I = none) : Fr g L h' m :=
  ⟨F.ns.sameBut hs hL, fun b o e => (hs.2 b (fun q => by rw [q, hg] at e; cases e)).trans (F.keep b o e), F.above⟩
theorem extBut_news {h h' : Heap} {I : Addr} {led : List (Addr × Obj)} (N : News g L h led) (hs : Heap.ExtBut I h h') (hI : ∀ p ∈ led, p.1 ≠ I) : News g L h' led := fun p hp => ⟨hs _ _ (hI p hp) (N p hp).1, (N p hp).2⟩
theorem extBut_fr {h h' : Heap} {I : Addr} {m : Str → Option Value} (F : Fr g L h m) (hs : Heap.ExtBut I h h') (hL : L ≠ I) (hg : g.get? I = none) : Fr g L h' m :=
  ⟨F.ns.extBut hs hL, fun b o e => hs b o (fun q => by rw [q, hg] at e; cases e) (F.keep b o e), F.above⟩
theorem loop_range {σ : Type} (Led : σ → List (Addr × Obj)) (mp : σ → Str → Option Value) (gs : σ → Array GenState) (P : Nat → σ → Prop) (c₀ : σ) {r : Addr} {a₀ b₀ : Int} {t₀ u₀ v₀ : Tok} {n : Nat} {m₀ : Str → Option Value}
    (hh : A.handled = none) (hr : IsRange s.heap r a₀ b₀ 1 t₀ u₀ v₀) (hsmall : Builtin.Range.small a₀ b₀ 1 = true) (hn : Builtin.Range.rangeSize a₀ b₀ 1 = (n : Int)) (hn64 : n < 64)
    (F : Fr g L s.heap m₀) (hm : ∀ y, mp c₀ y = m₀ y) (N : News g L s.heap (Led c₀)) (hg : gs c₀ = s.gens) (hp : P 0 c₀)
    (turn : ∀ (i : Nat) (c : σ) (t : Tok) (h : Heap) (tk : Nat) (I : Addr) (o : Obj), i < n → P i c → (∀ p ∈ Led c, p.1 ≠ I) → Fr g L h (mp c) → News g L h ((I, o) :: Led c) →
      wpAny (model prog w) A (storeName env x (.int (a₀ + (i : Int)) t)) (fun _ s₂ => wpAny (model prog w) A (execs body env) (LoopEnd g L Led mp gs P I o i s Q) E s₂) E { s with heap := h, gens := gs c, toks := tk })
    (done : ∀ (c : σ) (h : Heap) (tk : Nat), P n c → Fr g L h (mp c) → News g L h (Led c) → Q .next { s with heap := h, gens := gs c, toks := tk }) :
    wpAny (model prog w) A (pyIter (.ref r)) (OwitAt prog w A E env x body Q) E s := by
  refine wpAny_pyIter_range hr hsmall (OwitAt.intro ?_)
  have hI0 : g.get? s.heap.objs.size = none := next_is_new F
  have hIL : L ≠ s.heap.objs.size := Nat.ne_of_lt F.ns.lt
  have key : ∀ (k i : Nat) (c : σ) (h : Heap) (tk : Nat), i + k = n → IsRangeIter h s.heap.objs.size (a₀ + (i : Int)) ((n : Int) - (i : Int)) 1 → Fr g L h (mp c) → News g L h (Led c) → (∀ p ∈ Led c, p.1 ≠ s.heap.objs.size) → P i c →
      OwitRest prog w A E env x body Q s.heap.objs.size (64 - i) { s with heap := h, gens := gs c, toks := tk } := by
    intro k
    induction k with
    | zero =>
      intro i c h tk hik hit F₁ N₁ hne hP
      have hin : i = n := by omega
      subst hin
      obtain ⟨q, hq⟩ : ∃ q, 64 - i = q + 1 := ⟨63 - i, st64 (by omega)⟩
      rw [hq]
      refine OwitRest.succ (wpAny_pyNext_range_end hh hit (by omega) fun h' he => ?_)
      exact done c h' tk hP (extBut_fr F₁ he hIL hI0) (extBut_news N₁ he hne)
    | succ k ih =>
      intro i c h tk hik hit F₁ N₁ hne hP
      obtain ⟨q, hq⟩ : ∃ q, 64 - i = q + 1 := ⟨63 - i, st64 (by omega)⟩
      rw [hq]
      refine OwitRest.succ (wpAny_pyNext_range_item hit (by omega) fun h' hit' hs => ?_)
      have F₂ := sameBut_fr F₁ hs hIL hI0
      have N₂ := sameBut_news N₁ hs hne
      have N₃ : News g L h' ((s.heap.objs.size, ({ cls := .type "range_iterator", dict := none, data := .fields #[rawInt (a₀ + (i : Int) + 1), rawInt ((n : Int) - (i : Int) - 1), rawInt 1], slots := #[] } : Obj)) :: Led c) := fun p hp => by
        rcases List.mem_cons.mp hp with rfl | hp
        · exact ⟨hit', fun e => hIL e.symm, hI0⟩
        · exact N₂ p hp
      refine wpAny_mono (turn i c tk h' (tk + 1) _ _ (by exact om21 hik) hP hne F₂ N₃) (fun _ s₂ h₂ => wpAny_mono h₂ (fun f s₃ h₃ => ?_) fun _ _ z => z) fun _ _ z => z
      have fin : (∃ c' h' tk' m' nx, s₃ = { s with heap := h', gens := gs c', toks := tk' } ∧ Fr g L h' m' ∧ (∀ y, mp c' y = m' y) ∧ News g L h' nx ∧ (∀ p ∈ Led c', p ∈ nx) ∧ (s.heap.objs.size, ({ cls := .type "range_iterator", dict := none, data := .fields #[rawInt (a₀ + (i : Int) + 1), rawInt ((n : Int) - (i : Int) - 1), rawInt 1], slots := #[] } : Obj)) ∈ nx ∧ (∀ p ∈ Led c', p.1 ≠ s.heap.objs.size) ∧ P (i + 1) c') → OwitRest prog w A E env x body Q s.heap.objs.size q s₃ := by
        rintro ⟨c', h4, tk4, m4, nx, rfl, F4, hm4, N4, hl4, hi4, hn4, hP4⟩
        have hit4 : IsRangeIter h4 s.heap.objs.size (a₀ + ((i + 1 : Nat) : Int)) ((n : Int) - ((i + 1 : Nat) : Int)) 1 := by
          have e1 : a₀ + (i : Int) + 1 = a₀ + ((i + 1 : Nat) : Int) := by omega
          have e2 : (n : Int) - (i : Int) - 1 = (n : Int) - ((i + 1 : Nat) : Int) := by omega
          have := (N4 _ hi4).1
          rw [← e1, ← e2]
          exact this
        have := ih (i + 1) c' h4 tk4 (by exact om22 hik) hit4 (fr_eq F4 hm4) (fun p hp => N4 p (hl4 p hp)) hn4 hP4
        have e : 64 - (i + 1) = q := st64' hq
        rw [e] at this
        exact this
      cases f with
      | ret v => exact h₃
      | brk => exact h₃
      | next => exact fin h₃
      | cont => exact fin h₃
  have hne0 : ∀ p ∈ Led c₀, p.1 ≠ s.heap.objs.size := fun p hp => Nat.ne_of_lt (Heap.lt_size (N p hp).1)
  have := key n 0 c₀ (s.heap.push { cls := .type "range_iterator", data := .fields #[rawInt a₀, rawInt (Builtin.Range.rangeSize a₀ b₀ 1), rawInt 1] }) s.toks (by exact om23) (by rw [hn]; simpa using Heap.get?_push_size _ rfl) ((fr_eq F hm).push _) (fun p hp => ⟨Heap.get?_push_of_some _ (N p hp).1, (N p hp).2⟩) hne0 hp
  rw [hg] at this
  exact this
end
/-- a def that hands back a new list of ints -/
noncomputable def SpL (w : World) (mean : ExcName → Option Value) (mg mb : Str → Option Value) (f : Addr) (dd uu : Nat) (Pre : List (Addr × Obj) → Prop) (vs : List Value) (R : List Int) : Prop :=
  ∀ (news : List (Addr × Obj)) (dp un : Nat) (gd : Option (List Code)) (cn : Str) (cs : Scope) (a : Addr) (ccd : Value) (cl : List (Str × Addr)) (outer : List Env) (A₀ : Around) (base h₀ : Heap) (L : Addr) (m : Str → Option Value) (s : Shared) (Q E : Value → Shared → Prop),
    Below A₀ base outer h₀ → Fr h₀ L s.heap m → (hd.heap_39 w.params).In h₀ → News h₀ L s.heap news → Top hd.view_39 (looseW hd.view_39 []) mean mg mb h₀ → cs.kind = .function →
    dp + dd < recursionLimit → un + uu < cLine → Pre news →
    (∀ (l : Addr) (us : List Value) (e : Nat) (h' : Heap) (tk' : Nat), Fr h₀ L h' m → News h₀ L h' ((l, listOf us.toArray e) :: news) → (∀ p ∈ news, p.1 < l) → IntsAre us R → Q (.ref l) { s with heap := h', toks := tk' }) →
    wpAny (model Challenge.rw_ph0059_01.row.prog w) (ktrTop dp un gd cn cs L a ccd cl outer) (call (.ref f) vs) Q E s
theorem SpL.use {w : World} {mean : ExcName → Option Value} {mg mb : Str → Option Value} {f : Addr} {dd uu : Nat} {Pre : List (Addr × Obj) → Prop} {vs : List Value} {R : List Int} (H : SpL w mean mg mb f dd uu Pre vs R)
    {news : List (Addr × Obj)} {dp un : Nat} {gd : Option (List Code)} {cn : Str} {cs : Scope} {a : Addr} {ccd : Value} {cl : List (Str × Addr)} {outer : List Env} {A₀ : Around} {base h₀ : Heap} {L : Addr} {m : Str → Option Value} {s : Shared} {Q E : Value → Shared → Prop}
    (B : Below A₀ base outer h₀) (F : Fr h₀ L s.heap m) (X : (hd.heap_39 w.params).In h₀) (N : News h₀ L s.heap news) (T : Top hd.view_39 (looseW hd.view_39 []) mean mg mb h₀) (hk : cs.kind = .function)
    (hdp : dp + dd < recursionLimit) (hun : un + uu < cLine) (hpre : Pre news)
    (ret : ∀ (l : Addr) (us : List Value) (e : Nat) (h' : Heap) (tk' : Nat), Fr h₀ L h' m → News h₀ L h' ((l, listOf us.toArray e) :: news) → (∀ p ∈ news, p.1 < l) → IntsAre us R → Q (.ref l) { s with heap := h', toks := tk' }) :
    wpAny (model Challenge.rw_ph0059_01.row.prog w) (ktrTop dp un gd cn cs L a ccd cl outer) (call (.ref f) vs) Q E s := H _ _ _ _ _ _ _ _ _ _ _ _ _ _ _ _ _ _ B F X N T hk hdp hun hpre ret
end Mine
end

section
namespace Mine
noncomputable def stepS (ss : List Int) (b : Bool) : List Int := if b then ss ++ [1] else ss.dropLast ++ [ss.getLastD 0 + 1]
noncomputable def bitAt (bits k : Nat) : Bool := decide (bits / 2 ^ k % 2 = 1)
noncomputable def sizesOf (bits : Nat) (k : Nat) : List Int := @Nat.rec (fun _ => List Int) [1] (fun k l => stepS l (bitAt bits k)) k
theorem sizesOf_0 (bits : Nat) : sizesOf bits 0 = [1] := rfl
theorem sizesOf_s (bits k : Nat) : sizesOf bits (k + 1) = stepS (sizesOf bits k) (bitAt bits k) := rfl
theorem sizesOf_len (bits : Nat) : ∀ k, 1 ≤ (sizesOf bits k).length ∧ (sizesOf bits k).length ≤ k + 1
  | 0 => by simp [sizesOf_0]
  | k + 1 => by
    have := sizesOf_len bits k
    rw [sizesOf_s]
    unfold stepS
    split <;> simp <;> omega
theorem bit_cond (bits i : Nat) : ((bits : Int).fdiv (2 ^ (0 + (i : Int)).toNat)).fmod 2 = ((bits / 2 ^ i % 2 : Nat) : Int) := by
  have e : (0 + (i : Int)).toNat = i := by omega
  rw [e, Int.fdiv_eq_ediv_of_nonneg _ (Int.le_of_lt (Int.pow_pos (by decide))), Int.fmod_eq_emod_of_nonneg _ (by decide)]
  have : ((2 : Int) ^ i) = ((2 ^ i : Nat) : Int) := by simp
  rw [this]
  rfl
theorem last_getD (l : List Int) (h : 1 ≤ l.length) : l.getD (-1 + (l.length : Int)).toNat 0 = l.getLastD 0 := by
  have e : (-1 + (l.length : Int)).toNat = l.length - 1 := m1 _
  rw [e, List.getLastD_eq_getLast?, List.getLast?_eq_getElem?]
  simp [List.getD]
structure SzC where
  l : Addr
  vs : List Value
  ss : List Int
  e : Nat
  u : Str → Option Value
theorem sizes_spec (w : World) (mean : ExcName → Option Value) (mg mb : Str → Option Value) (n : Nat) (tn : Tok) (bits : Nat) (tb : Tok) (hn : 1 ≤ n) (hn5 : n ≤ 5) (hb : bits < 16) :
   SpL w mean mg mb 42 1 8 (fun _ => True) [.int n tn, .int bits tb] (sizesOf bits (n - 1)) := by
  unfold SpL
  k_fill
  intro news dp un gd cn cs a ccd cl outer A₀ base h₀ L m s Q E hB hF hX hN hT hcs hdp hun _ hret
  refine wpAny_call ?_
  w_on
  k_dflt (refine' code_def (binds := [(Str.ofString "count", .int n tn), (Str.ofString "bits", .int bits tb)]) ?k1 ?k2 ?k3 ?k4 ?k5 ?kA ?kF ?kK ?k6 ?k7 ?k8 ?k9 ?kB ?_ ?c2 ?c3 ?c4 ?c5)
  k_dflt (((case k1 | k2 | k3 | k4 | k5 => k_asm); (case kA | kF => exact rfl); (case kK => assumption); (case k6 | k7 => k_is); (case k8 => first | exact Mine.room_lt (by assumption) | ktr_room); (case k9 => exact BindsTo.of_eq rfl); (case c5 => decide); (case kB => exact locs rfl); (case c2 | c3 | c4 => exact rfl); k_whole))
  replace hdp := room hdp
  replace hun := room hun
  intro g' L' h' FG' F' N' B' X' T'
  (try dsimp only [List.reverse, List.reverseAux] at F' ⊢)
  k_fold
  (repeat' (first | (k_unfold; (try dsimp only)) | ((fail_if_success (with_reducible first | show wpAny _ _ (exec (Stmt.For _ _ _ _ _) _) _ _ _ | show wpAny _ _ (exec (Stmt.While _ _ _ _) _) _ _ _ | show wpAny _ _ (pyIter _) _ _ _ | show wpAny _ _ (call (Value.ref _) _ _) _ _ _ | show wpAny _ _ (eval (Expr.Subscript _ (Expr.Slice none (some (Expr.BoolOp _ _ _)) none _) _) _) _ _ _ | show wpAny _ _ (exec (Stmt.If _ [Stmt.Assign [Expr.Tuple _ _ _] _ _] _ _) _) _ _ _ | show wpAny _ _ (exec (Stmt.If (Expr.BoolOp _ _ _) [Stmt.Assign [Expr.Name _ _] (Expr.Subscript _ _ _) _] _ _) _) _ _ _)); walk1) | ((fail_if_success (with_reducible first | show wpAny _ _ (exec (Stmt.For _ _ _ _ _) _) _ _ _ | show wpAny _ _ (exec (Stmt.While _ _ _ _) _) _ _ _ | show wpAny _ _ (pyIter _) _ _ _ | show wpAny _ _ (call (Value.ref _) _ _) _ _ _ | show wpAny _ _ (eval (Expr.Subscript _ (Expr.Slice none (some (Expr.BoolOp _ _ _)) none _) _) _) _ _ _ | show wpAny _ _ (exec (Stmt.If _ [Stmt.Assign [Expr.Tuple _ _ _] _ _] _ _) _) _ _ _ | show wpAny _ _ (exec (Stmt.If (Expr.BoolOp _ _ _) [Stmt.Assign [Expr.Name _ _] (Expr.Subscript _ _ _) _] _ _) _) _ _ _)); dsimp only; walk1) | (leave1; (try dsimp only)) | fail "no step"))
  refine owit_for ?_
  (repeat' (first | (k_unfold; (try dsimp only)) | ((fail_if_success (with_reducible first | show wpAny _ _ (exec (Stmt.For _ _ _ _ _) _) _ _ _ | show wpAny _ _ (exec (Stmt.While _ _ _ _) _) _ _ _ | show wpAny _ _ (pyIter _) _ _ _ | show wpAny _ _ (call (Value.ref _) _ _) _ _ _ | show wpAny _ _ (eval (Expr.Subscript _ (Expr.Slice none (some (Expr.BoolOp _ _ _)) none _) _) _) _ _ _ | show wpAny _ _ (exec (Stmt.If _ [Stmt.Assign [Expr.Tuple _ _ _] _ _] _ _) _) _ _ _ | show wpAny _ _ (exec (Stmt.If (Expr.BoolOp _ _ _) [Stmt.Assign [Expr.Name _ _] (Expr.Subscript _ _ _) _] _ _) _) _ _ _)); walk1) | ((fail_if_success (with_reducible first | show wpAny _ _ (exec (Stmt.For _ _ _ _ _) _) _ _ _ | show wpAny _ _ (exec (Stmt.While _ _ _ _) _) _ _ _ | show wpAny _ _ (pyIter _) _ _ _ | show wpAny _ _ (call (Value.ref _) _ _) _ _ _ | show wpAny _ _ (eval (Expr.Subscript _ (Expr.Slice none (some (Expr.BoolOp _ _ _)) none _) _) _) _ _ _ | show wpAny _ _ (exec (Stmt.If _ [Stmt.Assign [Expr.Tuple _ _ _] _ _] _ _) _) _ _ _ | show wpAny _ _ (exec (Stmt.If (Expr.BoolOp _ _ _) [Stmt.Assign [Expr.Name _ _] (Expr.Subscript _ _ _) _] _ _) _) _ _ _)); dsimp only; walk1) | (leave1; (try dsimp only)) | fail "no step"))
  rename Fr _ _ _ _ => F1
  rename News _ _ _ _ => N1
  rename IsRange _ _ _ _ _ _ _ _ => rgX
  (try dsimp only at rgX)
  refine led_name N1 ?_
  intro ll e
  subst e
  obtain ⟨t1, N2⟩ : ∃ t1, News g' L' _ ((ll, listOf [Value.int 1 t1].toArray 0) :: news) := ⟨_, N1⟩
  clear N1
  refine loop_range (σ := SzC) (n := n - 1) (fun c => (c.l, listOf c.vs.toArray c.e) :: news) (fun c z => if z = Str.ofString "sizes" then some (Value.ref c.l) else if z = Str.ofString "k" then c.u z else List.lookup z [(Str.ofString "bits", Value.int bits tb), (Str.ofString "count", Value.int n tn)]) (fun _ => s.gens)
    (fun i c => IntsAre c.vs c.ss ∧ c.ss = sizesOf bits i ∧ ∀ p ∈ news, p.1 < c.l) ⟨ll, [Value.int 1 t1], [1], 0, fun _ => none⟩ rfl rgX (small_one (by omega) (by omega) (by omega) (by omega)) (by rw [rangeSize_nat]; congr 1; rw [Int.sub_zero]; exact Int.toNat_sub n 1) (by omega) F1 ?qm N2 rfl ?qp ?qturn ?qdone
  case qm =>
    intro z
    by_cases h1 : z = Str.ofString "sizes"
    · simp [h1]
    · by_cases h2 : z = Str.ofString "k"
      · subst h2; rfl
      · simp [h1, h2]
  case qp => exact ⟨IntsAre.cons _ _ IntsAre.nil, rfl, by assumption⟩
  case qdone =>
    intro c h tk hP F3 N3
    obtain ⟨hp1, hp2, hp3⟩ := hP
    (repeat' (first | (k_unfold; (try dsimp only)) | ((fail_if_success (with_reducible first | show wpAny _ _ (exec (Stmt.For _ _ _ _ _) _) _ _ _ | show wpAny _ _ (exec (Stmt.While _ _ _ _) _) _ _ _ | show wpAny _ _ (pyIter _) _ _ _ | show wpAny _ _ (call (Value.ref _) _ _) _ _ _ | show wpAny _ _ (eval (Expr.Subscript _ (Expr.Slice none (some (Expr.BoolOp _ _ _)) none _) _) _) _ _ _ | show wpAny _ _ (exec (Stmt.If _ [Stmt.Assign [Expr.Tuple _ _ _] _ _] _ _) _) _ _ _ | show wpAny _ _ (exec (Stmt.If (Expr.BoolOp _ _ _) [Stmt.Assign [Expr.Name _ _] (Expr.Subscript _ _ _) _] _ _) _) _ _ _)); walk1) | ((fail_if_success (with_reducible first | show wpAny _ _ (exec (Stmt.For _ _ _ _ _) _) _ _ _ | show wpAny _ _ (exec (Stmt.While _ _ _ _) _) _ _ _ | show wpAny _ _ (pyIter _) _ _ _ | show wpAny _ _ (call (Value.ref _) _ _) _ _ _ | show wpAny _ _ (eval (Expr.Subscript _ (Expr.Slice none (some (Expr.BoolOp _ _ _)) none _) _) _) _ _ _ | show wpAny _ _ (exec (Stmt.If _ [Stmt.Assign [Expr.Tuple _ _ _] _ _] _ _) _) _ _ _ | show wpAny _ _ (exec (Stmt.If (Expr.BoolOp _ _ _) [Stmt.Assign [Expr.Name _ _] (Expr.Subscript _ _ _) _] _ _) _) _ _ _)); dsimp only; walk1) | (leave1; (try dsimp only)) | fail "no step"))
    rw [hp2] at hp1
    exact hret _ _ _ _ _ (by assumption) (by assumption) hp3 hp1
  case qturn =>
    intro i c t h tk I o hi hP hne F3 N3
    obtain ⟨hp1, hp2, hp3⟩ := hP
    have hl := sizesOf_len bits i
    have hcl : c.ss.length = (sizesOf bits i).length := by rw [hp2]
    have hI : c.l ≠ I := hne _ (.head _)
    (try dsimp only at F3 N3 ⊢)
    (repeat' (first | (k_unfold; (try dsimp only)) | ((fail_if_success (with_reducible first | show wpAny _ _ (exec (Stmt.For _ _ _ _ _) _) _ _ _ | show wpAny _ _ (exec (Stmt.While _ _ _ _) _) _ _ _ | show wpAny _ _ (pyIter _) _ _ _ | show wpAny _ _ (call (Value.ref _) _ _) _ _ _ | show wpAny _ _ (eval (Expr.Subscript _ (Expr.Slice none (some (Expr.BoolOp _ _ _)) none _) _) _) _ _ _ | show wpAny _ _ (exec (Stmt.If _ [Stmt.Assign [Expr.Tuple _ _ _] _ _] _ _) _) _ _ _ | show wpAny _ _ (exec (Stmt.If (Expr.BoolOp _ _ _) [Stmt.Assign [Expr.Name _ _] (Expr.Subscript _ _ _) _] _ _) _) _ _ _)); walk1) | ((fail_if_success (with_reducible first | show wpAny _ _ (exec (Stmt.For _ _ _ _ _) _) _ _ _ | show wpAny _ _ (exec (Stmt.While _ _ _ _) _) _ _ _ | show wpAny _ _ (pyIter _) _ _ _ | show wpAny _ _ (call (Value.ref _) _ _) _ _ _ | show wpAny _ _ (eval (Expr.Subscript _ (Expr.Slice none (some (Expr.BoolOp _ _ _)) none _) _) _) _ _ _ | show wpAny _ _ (exec (Stmt.If _ [Stmt.Assign [Expr.Tuple _ _ _] _ _] _ _) _) _ _ _ | show wpAny _ _ (exec (Stmt.If (Expr.BoolOp _ _ _) [Stmt.Assign [Expr.Name _ _] (Expr.Subscript _ _ _) _] _ _) _) _ _ _)); dsimp only; walk1) | (leave1; (try dsimp only)) | fail "no step"))
    all_goals
      rename Fr _ _ _ _ => F9
      rename News _ _ _ _ => N9
      rename IntsAre _ (_ ++ [_]) => hI9
      rename (_ < _ ∧ _) => hlt9
      refine led_name N9 ?_
      intro dl e
      subst e
      refine ints_name hI9 ?_
      intro wv e
      subst e
    · refine ⟨⟨dl, wv, c.ss ++ [1], 0, fun _ => some (Value.int (0 + i) t)⟩, _, _, _, _, rfl, F9, ?_, N9, ?_, .tail _ (.tail _ (.head _)), ?_, hI9, ?_, ?_⟩
      · intro z
        by_cases h1 : z = Str.ofString "sizes"
        · simp [h1]
        · by_cases h2 : z = Str.ofString "k" <;> simp [h1, h2]
      · exact List.forall_mem_cons.mpr ⟨.head _, fun p hp => .tail _ (.tail _ (.tail _ (.tail _ hp)))⟩
      · refine List.forall_mem_cons.mpr ⟨?_, fun p hp => hne p (.tail _ hp)⟩
        exact Nat.ne_of_gt hlt9.2.1
      · have hc : ((bits : Int).fdiv (2 ^ (0 + (i : Int)).toNat)).fmod 2 = 1 := by assumption
        rw [bit_cond] at hc
        have : bitAt bits i = true := decide_eq_true (by omega)
        show c.ss ++ [1] = stepS (sizesOf bits i) (bitAt bits i)
        rw [hp2, this]; rfl
      · exact of_allLt hlt9.2.2.2
    · refine ⟨⟨dl, wv, List.take (c.ss.length - 1) c.ss ++ [c.ss.getD (-1 + (c.ss.length : Int)).toNat 0 + 1], 0, fun _ => some (Value.int (0 + i) t)⟩, _, _, _, _, rfl, F9, ?_, N9, ?_, .tail _ (.tail _ (.tail _ (.head _))), ?_, hI9, ?_, ?_⟩
      · intro z
        by_cases h1 : z = Str.ofString "sizes"
        · simp [h1]
        · by_cases h2 : z = Str.ofString "k" <;> simp [h1, h2]
      · exact List.forall_mem_cons.mpr ⟨.head _, fun p hp => .tail _ (.tail _ (.tail _ (.tail _ (.tail _ hp))))⟩
      · refine List.forall_mem_cons.mpr ⟨?_, fun p hp => hne p (.tail _ hp)⟩
        exact Nat.ne_of_gt hlt9.2.2.1
      · have hc : ((bits : Int).fdiv (2 ^ (0 + (i : Int)).toNat)).fmod 2 ≠ 1 := by assumption
        rw [bit_cond] at hc
        have : bitAt bits i = false := decide_eq_false (by omega)
        show List.take (c.ss.length - 1) c.ss ++ [c.ss.getD (-1 + (c.ss.length : Int)).toNat 0 + 1] = stepS (sizesOf bits i) (bitAt bits i)
        rw [this, ← hp2]
        have hne0 : c.ss ≠ [] := by intro e; rw [e] at hcl; simp at hcl; omega
        simp only [stepS, Bool.false_eq_true, if_false, List.dropLast_eq_take]
        congr 2
        rw [last_getD _ (by omega)]
      · exact of_allLt hlt9.2.2.2.2
end Mine
end

section
namespace Mine
noncomputable def trim1 (l : List Int) : List Int := if 1 < l.length ∧ l.getD (l.length - 1) 0 ≤ l.getD (l.length - 2) 0 then l.take (l.length - 1) else l
noncomputable def trimW (n : Nat) : List Int → List Int := @Nat.rec (fun _ => List Int → List Int) (fun l => l) (fun _ ih l => if 1 < l.length ∧ l.getD (l.length - 1) 0 = l.getD (l.length - 2) 0 then ih (l.take (l.length - 1)) else l) n
theorem trimW_s (n : Nat) (l : List Int) : trimW (n + 1) l = if 1 < l.length ∧ l.getD (l.length - 1) 0 = l.getD (l.length - 2) 0 then trimW n (l.take (l.length - 1)) else l := rfl
theorem trimW_le : ∀ (n : Nat) (l : List Int), (trimW n l).length ≤ l.length
  | 0, _ => Nat.le_refl _
  | n + 1, l => by
    rw [trimW_s]
    split
    · have := trimW_le n (l.take (l.length - 1)); rw [List.length_take] at this; omega
    · exact Nat.le_refl _
noncomputable def rowOf (ss : List Int) (kind : Int) : List Int := if kind = 1 then ss.take (ss.length - 1) ++ [127, 1] else if kind = 2 then ss.take (ss.length - 1) else trimW (trim1 ss).length (trim1 ss) ++ [0, 4]
/-- the name row holds the list rs -/
noncomputable def RowAt (g : Heap) (L : Addr) (news : List (Addr × Obj)) (m : Str → Option Value) (rs : List Int) (s : Shared) (f : Flow) (s' : Shared) : Prop :=
  f = .next ∧ ∃ (l : Addr) (vs : List Value) (e : Nat) (led : List (Addr × Obj)) (h : Heap) (tk : Nat), s' = { s with heap := h, toks := tk } ∧ (l, listOf vs.toArray e) ∈ led ∧ (∀ p ∈ news, p ∈ led) ∧ IntsAre vs rs ∧ Fr g L h (fun z => if z = Str.ofString "row" then some (Value.ref l) else m z) ∧ News g L h led
structure RwC where
  l : Addr
  vs : List Value
  rs : List Int
  e : Nat
  led : List (Addr × Obj)
theorem row_spec (w : World) (mean : ExcName → Option Value) (mg mb : Str → Option Value) (aa : Addr) (us : List Value) (ue : Nat) (ss : List Int) (kind : Int) (tk0 : Tok) (hus : IntsAre us ss) (hs1 : 1 ≤ ss.length) (hs5 : ss.length ≤ 5) :
   SpL w mean mg mb 49 1 8 (fun news => (aa, listOf us.toArray ue) ∈ news) [.ref aa, .int kind tk0] (rowOf ss kind) := by
  unfold SpL
  k_fill
  intro news dp un gd cn cs a ccd cl outer A₀ base h₀ L m s Q E hB hF hX hN hT hcs hdp hun hpre hret
  refine wpAny_call ?_
  w_on
  k_dflt (refine' code_def (binds := [(Str.ofString "sizes", .ref aa), (Str.ofString "kind", .int kind tk0)]) ?k1 ?k2 ?k3 ?k4 ?k5 ?kA ?kF ?kK ?k6 ?k7 ?k8 ?k9 ?kB ?_ ?c2 ?c3 ?c4 ?c5)
  k_dflt (((case k1 | k2 | k3 | k4 | k5 => k_asm); (case kA | kF => exact rfl); (case kK => assumption); (case k6 | k7 => k_is); (case k8 => first | exact Mine.room_lt (by assumption) | ktr_room); (case k9 => exact BindsTo.of_eq rfl); (case c5 => decide); (case kB => exact locs rfl); (case c2 | c3 | c4 => exact rfl); k_whole))
  replace hdp := room hdp
  replace hun := room hun
  intro g' L' h' FG' F' N' B' X' T'
  (try dsimp only [List.reverse, List.reverseAux] at F' ⊢)
  k_fold
  (repeat' (first | (k_unfold; (try dsimp only)) | ((fail_if_success (with_reducible first | show wpAny _ _ (exec (Stmt.For _ _ _ _ _) _) _ _ _ | show wpAny _ _ (exec (Stmt.While _ _ _ _) _) _ _ _ | show wpAny _ _ (pyIter _) _ _ _ | show wpAny _ _ (call (Value.ref _) _ _) _ _ _ | show wpAny _ _ (eval (Expr.Subscript _ (Expr.Slice none (some (Expr.BoolOp _ _ _)) none _) _) _) _ _ _ | show wpAny _ _ (exec (Stmt.If _ [Stmt.Assign [Expr.Tuple _ _ _] _ _] _ _) _) _ _ _ | show wpAny _ _ (exec (Stmt.If (Expr.BoolOp _ _ _) [Stmt.Assign [Expr.Name _ _] (Expr.Subscript _ _ _) _] _ _) _) _ _ _)); walk1) | ((fail_if_success (with_reducible first | show wpAny _ _ (exec (Stmt.For _ _ _ _ _) _) _ _ _ | show wpAny _ _ (exec (Stmt.While _ _ _ _) _) _ _ _ | show wpAny _ _ (pyIter _) _ _ _ | show wpAny _ _ (call (Value.ref _) _ _) _ _ _ | show wpAny _ _ (eval (Expr.Subscript _ (Expr.Slice none (some (Expr.BoolOp _ _ _)) none _) _) _) _ _ _ | show wpAny _ _ (exec (Stmt.If _ [Stmt.Assign [Expr.Tuple _ _ _] _ _] _ _) _) _ _ _ | show wpAny _ _ (exec (Stmt.If (Expr.BoolOp _ _ _) [Stmt.Assign [Expr.Name _ _] (Expr.Subscript _ _ _) _] _ _) _) _ _ _)); dsimp only; walk1) | (leave1; (try dsimp only)) | fail "no step"))
  · have e : rowOf ss kind = ss.take (ss.length - 1) ++ [127, 1] := if_pos (by assumption)
    rw [e] at hret
    rename News h₀ _ _ (_ :: _) => N9
    rename IntsAre _ (_ ++ _) => hI9
    rename (_ < _ ∧ _) => hlt9
    exact hret _ _ _ _ _ (by assumption) (cb_drop N9 (List.forall_mem_cons.mpr ⟨.head _, fun p hp => .tail _ (.tail _ (.tail _ hp))⟩)) (of_allLt hlt9.2.2) hI9
  · have e : rowOf ss kind = ss.take (ss.length - 1) := by rw [rowOf, if_neg (by assumption), if_pos (by assumption)]
    rw [e] at hret
    rename News h₀ _ _ (_ :: _) => N9
    rename IntsAre _ (List.take _ _) => hI9
    exact hret _ _ _ _ _ (by assumption) N9 (by assumption) hI9
  have e : rowOf ss kind = trimW (trim1 ss).length (trim1 ss) ++ [0, 4] := by rw [rowOf, if_neg (by assumption), if_neg (by assumption)]
  rw [e] at hret
  rename Fr _ _ _ _ => F1
  rename News _ _ _ _ => N1
  refine wpAny_mono (Q := RowAt g' L' news (fun y => List.lookup y [(Str.ofString "kind", Value.int kind tk0), (Str.ofString "sizes", Value.ref aa)]) (trim1 ss) s) ?_ ?_ (fun _ _ h => h)
  · walk1
    (repeat' (first | (k_unfold; (try dsimp only)) | ((fail_if_success (with_reducible first | show wpAny _ _ (exec (Stmt.For _ _ _ _ _) _) _ _ _ | show wpAny _ _ (exec (Stmt.While _ _ _ _) _) _ _ _ | show wpAny _ _ (pyIter _) _ _ _ | show wpAny _ _ (call (Value.ref _) _ _) _ _ _ | show wpAny _ _ (eval (Expr.Subscript _ (Expr.Slice none (some (Expr.BoolOp _ _ _)) none _) _) _) _ _ _ | show wpAny _ _ (exec (Stmt.If _ [Stmt.Assign [Expr.Tuple _ _ _] _ _] _ _) _) _ _ _ | show wpAny _ _ (exec (Stmt.If (Expr.BoolOp _ _ _) [Stmt.Assign [Expr.Name _ _] (Expr.Subscript _ _ _) _] _ _) _) _ _ _)); walk1) | ((fail_if_success (with_reducible first | show wpAny _ _ (exec (Stmt.For _ _ _ _ _) _) _ _ _ | show wpAny _ _ (exec (Stmt.While _ _ _ _) _) _ _ _ | show wpAny _ _ (pyIter _) _ _ _ | show wpAny _ _ (call (Value.ref _) _ _) _ _ _ | show wpAny _ _ (eval (Expr.Subscript _ (Expr.Slice none (some (Expr.BoolOp _ _ _)) none _) _) _) _ _ _ | show wpAny _ _ (exec (Stmt.If _ [Stmt.Assign [Expr.Tuple _ _ _] _ _] _ _) _) _ _ _ | show wpAny _ _ (exec (Stmt.If (Expr.BoolOp _ _ _) [Stmt.Assign [Expr.Name _ _] (Expr.Subscript _ _ _) _] _ _) _) _ _ _)); dsimp only; walk1) | (leave1; (try dsimp only)) | fail "no step"))
    · rename News _ _ _ (_ :: _) => N9
      rename IntsAre _ (List.take _ _) => hI9
      have e2 : trim1 ss = ss.take (ss.length - 1) := if_pos (by
        have hc : ss.getD (-1 + (ss.length : Int)).toNat 0 ≤ ss.getD (-2 + (ss.length : Int)).toNat 0 := by assumption
        have hg : 1 < (ss.length : Int) := by assumption
        rw [show (-1 + (ss.length : Int)).toNat = ss.length - 1 from m1 _, show (-2 + (ss.length : Int)).toNat = ss.length - 2 from m2 _] at hc
        exact ⟨by omega, hc⟩)
      rw [e2]
      refine ⟨rfl, _, _, _, _, _, _, rfl, .head _, fun p hp => .tail _ hp, hI9, fr_eq (by assumption) ?_, N9⟩
      intro z
      by_cases h1 : z = Str.ofString "row" <;> simp [h1]
    · have e2 : trim1 ss = ss := if_neg (by
        have hc : ¬ ss.getD (-1 + (ss.length : Int)).toNat 0 ≤ ss.getD (-2 + (ss.length : Int)).toNat 0 := by assumption
        have hg : 1 < (ss.length : Int) := by assumption
        rw [show (-1 + (ss.length : Int)).toNat = ss.length - 1 from m1 _, show (-2 + (ss.length : Int)).toNat = ss.length - 2 from m2 _] at hc
        exact fun h => hc h.2)
      rw [e2]
      exact ⟨rfl, _, _, _, _, _, _, rfl, hpre, fun p hp => hp, hus, F1, N1⟩
    · have e2 : trim1 ss = ss := if_neg (by
        have hg : ¬ 1 < (ss.length : Int) := by assumption
        omega)
      rw [e2]
      exact ⟨rfl, _, _, _, _, _, _, rfl, hpre, fun p hp => hp, hus, F1, N1⟩
  intro f s' hq
  obtain ⟨rfl, l, vs, e1, led, h1, tk1, rfl, hml, hsub, hI1, F2, N2⟩ := hq
  clear F1 N1
  have ht1 : (trim1 ss).length ≤ 5 := by
    unfold trim1
    split
    · rw [List.length_take]; omega
    · exact hs5
  (repeat' (first | (k_unfold; (try dsimp only)) | ((fail_if_success (with_reducible first | show wpAny _ _ (exec (Stmt.For _ _ _ _ _) _) _ _ _ | show wpAny _ _ (exec (Stmt.While _ _ _ _) _) _ _ _ | show wpAny _ _ (pyIter _) _ _ _ | show wpAny _ _ (call (Value.ref _) _ _) _ _ _ | show wpAny _ _ (eval (Expr.Subscript _ (Expr.Slice none (some (Expr.BoolOp _ _ _)) none _) _) _) _ _ _ | show wpAny _ _ (exec (Stmt.If _ [Stmt.Assign [Expr.Tuple _ _ _] _ _] _ _) _) _ _ _ | show wpAny _ _ (exec (Stmt.If (Expr.BoolOp _ _ _) [Stmt.Assign [Expr.Name _ _] (Expr.Subscript _ _ _) _] _ _) _) _ _ _)); walk1) | ((fail_if_success (with_reducible first | show wpAny _ _ (exec (Stmt.For _ _ _ _ _) _) _ _ _ | show wpAny _ _ (exec (Stmt.While _ _ _ _) _) _ _ _ | show wpAny _ _ (pyIter _) _ _ _ | show wpAny _ _ (call (Value.ref _) _ _) _ _ _ | show wpAny _ _ (eval (Expr.Subscript _ (Expr.Slice none (some (Expr.BoolOp _ _ _)) none _) _) _) _ _ _ | show wpAny _ _ (exec (Stmt.If _ [Stmt.Assign [Expr.Tuple _ _ _] _ _] _ _) _) _ _ _ | show wpAny _ _ (exec (Stmt.If (Expr.BoolOp _ _ _) [Stmt.Assign [Expr.Name _ _] (Expr.Subscript _ _ _) _] _ _) _) _ _ _)); dsimp only; walk1) | (leave1; (try dsimp only)) | fail "no step"))
  refine wpAny_mono (Q := RowAt g' L' news (fun y => List.lookup y [(Str.ofString "kind", Value.int kind tk0), (Str.ofString "sizes", Value.ref aa)]) (trimW (trim1 ss).length (trim1 ss)) s) ?_ ?_ (fun _ _ h => h)
  · refine ksw_while (σ := RwC) (fun c => c.led) (fun c => [(Str.ofString "row", .ref c.l)]) (fun c => IntsAre c.vs c.rs ∧ (c.l, listOf c.vs.toArray c.e) ∈ c.led ∧ ∀ p ∈ news, p ∈ c.led) [] (fun c => trimW c.rs.length c.rs = trimW (trim1 ss).length (trim1 ss) ∧ c.rs.length ≤ 5) (fun c => c.rs.length) ⟨l, vs, trim1 ss, e1, led⟩ F2 N2 ⟨hI1, hml, hsub⟩ ?zk ?zp ?zturn ?zE
    case zk => kst_all
    case zp => exact ⟨rfl, ht1⟩
    case zE => passes_own
    case zturn =>
      clear F2 N2
      intro c u h tk hf hP F3 N3
      obtain ⟨hc1, hc2, hc3⟩ := hf
      obtain ⟨hp1, hp2⟩ := hP
      replace F3 : Fr g' L' h (fun z => if z = Str.ofString "row" then some (Value.ref c.l) else List.lookup z [(Str.ofString "kind", Value.int kind tk0), (Str.ofString "sizes", Value.ref aa)]) := fr_eq F3 (by intro z; by_cases q : z = Str.ofString "row" <;> simp [kstB, q])
      (try dsimp only at N3 ⊢)
      have hpos : c.rs.length = 0 ∨ 1 ≤ c.rs.length := by omega
      (repeat' (first | (k_unfold; (try dsimp only)) | ((fail_if_success (with_reducible first | show wpAny _ _ (exec (Stmt.For _ _ _ _ _) _) _ _ _ | show wpAny _ _ (exec (Stmt.While _ _ _ _) _) _ _ _ | show wpAny _ _ (pyIter _) _ _ _ | show wpAny _ _ (call (Value.ref _) _ _) _ _ _ | show wpAny _ _ (eval (Expr.Subscript _ (Expr.Slice none (some (Expr.BoolOp _ _ _)) none _) _) _) _ _ _ | show wpAny _ _ (exec (Stmt.If _ [Stmt.Assign [Expr.Tuple _ _ _] _ _] _ _) _) _ _ _ | show wpAny _ _ (exec (Stmt.If (Expr.BoolOp _ _ _) [Stmt.Assign [Expr.Name _ _] (Expr.Subscript _ _ _) _] _ _) _) _ _ _)); walk1) | ((fail_if_success (with_reducible first | show wpAny _ _ (exec (Stmt.For _ _ _ _ _) _) _ _ _ | show wpAny _ _ (exec (Stmt.While _ _ _ _) _) _ _ _ | show wpAny _ _ (pyIter _) _ _ _ | show wpAny _ _ (call (Value.ref _) _ _) _ _ _ | show wpAny _ _ (eval (Expr.Subscript _ (Expr.Slice none (some (Expr.BoolOp _ _ _)) none _) _) _) _ _ _ | show wpAny _ _ (exec (Stmt.If _ [Stmt.Assign [Expr.Tuple _ _ _] _ _] _ _) _) _ _ _ | show wpAny _ _ (exec (Stmt.If (Expr.BoolOp _ _ _) [Stmt.Assign [Expr.Name _ _] (Expr.Subscript _ _ _) _] _ _) _) _ _ _)); dsimp only; walk1) | (leave1; (try dsimp only)) | fail "no step"))
      · rename News _ _ _ (_ :: _) => N9
        rename IntsAre _ (List.take _ _) => hI9
        rename Fr _ _ _ _ => F9
        refine led_name N9 ?_
        intro dl e
        subst e
        refine ints_name hI9 ?_
        intro wv e
        subst e
        have hg : 1 < (c.rs.length : Int) := by assumption
        have hc : c.rs.getD (-1 + (c.rs.length : Int)).toNat 0 = c.rs.getD (-2 + (c.rs.length : Int)).toNat 0 := by assumption
        rw [show (-1 + (c.rs.length : Int)).toNat = c.rs.length - 1 from m1 _, show (-2 + (c.rs.length : Int)).toNat = c.rs.length - 2 from m2 _] at hc
        have hlen : (c.rs.take (c.rs.length - 1)).length = c.rs.length - 1 := by rw [List.length_take]; omega
        refine ksw_end ⟨dl, wv, c.rs.take (c.rs.length - 1), 0, (dl, listOf wv.toArray 0) :: c.led⟩ F9 N9 (fun _ h => h) ⟨hI9, .head _, fun p hp => .tail _ (hc3 p hp)⟩ ?_ ?_ ⟨?_, by dsimp only; omega⟩ (by dsimp only; omega)
        · kst_all
        · intro z h2 _
          have := h2 _ (List.mem_singleton.mpr rfl)
          simp [this]
        · (try dsimp only)
          rw [hlen, ← hp1]
          obtain ⟨q, hq⟩ : ∃ q, c.rs.length = q + 1 := ⟨c.rs.length - 1, by omega⟩
          rw [hq]
          show _ = if 1 < c.rs.length ∧ c.rs.getD (c.rs.length - 1) 0 = c.rs.getD (c.rs.length - 2) 0 then trimW q (c.rs.take (c.rs.length - 1)) else c.rs
          rw [if_pos ⟨by omega, hc⟩, hq]
          rfl
      all_goals
        have hx : trimW (trim1 ss).length (trim1 ss) = c.rs := by
          rw [← hp1]
          rcases hpos with h0 | h0
          · rw [h0]; rfl
          · obtain ⟨q, hq⟩ : ∃ q, c.rs.length = q + 1 := ⟨c.rs.length - 1, by omega⟩
            rw [hq]
            show (if 1 < c.rs.length ∧ c.rs.getD (c.rs.length - 1) 0 = c.rs.getD (c.rs.length - 2) 0 then trimW q (c.rs.take (c.rs.length - 1)) else c.rs) = c.rs
            refine if_neg ?_
            rw [show c.rs.length - 1 = (-1 + (c.rs.length : Int)).toNat from (m1 _).symm, show c.rs.length - 2 = (-2 + (c.rs.length : Int)).toNat from (m2 _).symm]
            intro hh
            have hh1 := hh.1
            have hh2 := hh.2
            first
              | exact absurd hh2 (by assumption)
              | omega
        rw [hx]
        exact ⟨rfl, _, _, _, _, _, _, rfl, hc2, hc3, hc1, by assumption, by assumption⟩
  intro f s' hq
  obtain ⟨rfl, l2, vs2, e2, led2, h2, tk2, rfl, hml2, hsub2, hI2, F3, N3⟩ := hq
  clear F2 N2
  have hlt2 : (trimW (trim1 ss).length (trim1 ss)).length ≤ 5 := Nat.le_trans (trimW_le _ _) ht1
  (repeat' (first | (k_unfold; (try dsimp only)) | ((fail_if_success (with_reducible first | show wpAny _ _ (exec (Stmt.For _ _ _ _ _) _) _ _ _ | show wpAny _ _ (exec (Stmt.While _ _ _ _) _) _ _ _ | show wpAny _ _ (pyIter _) _ _ _ | show wpAny _ _ (call (Value.ref _) _ _) _ _ _ | show wpAny _ _ (eval (Expr.Subscript _ (Expr.Slice none (some (Expr.BoolOp _ _ _)) none _) _) _) _ _ _ | show wpAny _ _ (exec (Stmt.If _ [Stmt.Assign [Expr.Tuple _ _ _] _ _] _ _) _) _ _ _ | show wpAny _ _ (exec (Stmt.If (Expr.BoolOp _ _ _) [Stmt.Assign [Expr.Name _ _] (Expr.Subscript _ _ _) _] _ _) _) _ _ _)); walk1) | ((fail_if_success (with_reducible first | show wpAny _ _ (exec (Stmt.For _ _ _ _ _) _) _ _ _ | show wpAny _ _ (exec (Stmt.While _ _ _ _) _) _ _ _ | show wpAny _ _ (pyIter _) _ _ _ | show wpAny _ _ (call (Value.ref _) _ _) _ _ _ | show wpAny _ _ (eval (Expr.Subscript _ (Expr.Slice none (some (Expr.BoolOp _ _ _)) none _) _) _) _ _ _ | show wpAny _ _ (exec (Stmt.If _ [Stmt.Assign [Expr.Tuple _ _ _] _ _] _ _) _) _ _ _ | show wpAny _ _ (exec (Stmt.If (Expr.BoolOp _ _ _) [Stmt.Assign [Expr.Name _ _] (Expr.Subscript _ _ _) _] _ _) _) _ _ _)); dsimp only; walk1) | (leave1; (try dsimp only)) | fail "no step"))
  rename Fr _ _ _ _ => F9
  rename News _ _ _ _ => N9
  refine kmk_add_ints F9 N9 (News.isList N9 (.tail _ hml2)) (News.isList N9 (.head _)) hI2 (IntsAre.cons _ _ (IntsAre.cons _ _ IntsAre.nil)) ?_ ?_
  rotate_left
  · rw [sizeLine_eq]; simp only [List.length_cons, List.length_nil]; omega
  intro D9 ws9 h9 F10 N10 hlt9 hI9
  (repeat' (first | (k_unfold; (try dsimp only)) | ((fail_if_success (with_reducible first | show wpAny _ _ (exec (Stmt.For _ _ _ _ _) _) _ _ _ | show wpAny _ _ (exec (Stmt.While _ _ _ _) _) _ _ _ | show wpAny _ _ (pyIter _) _ _ _ | show wpAny _ _ (call (Value.ref _) _ _) _ _ _ | show wpAny _ _ (eval (Expr.Subscript _ (Expr.Slice none (some (Expr.BoolOp _ _ _)) none _) _) _) _ _ _ | show wpAny _ _ (exec (Stmt.If _ [Stmt.Assign [Expr.Tuple _ _ _] _ _] _ _) _) _ _ _ | show wpAny _ _ (exec (Stmt.If (Expr.BoolOp _ _ _) [Stmt.Assign [Expr.Name _ _] (Expr.Subscript _ _ _) _] _ _) _) _ _ _)); walk1) | ((fail_if_success (with_reducible first | show wpAny _ _ (exec (Stmt.For _ _ _ _ _) _) _ _ _ | show wpAny _ _ (exec (Stmt.While _ _ _ _) _) _ _ _ | show wpAny _ _ (pyIter _) _ _ _ | show wpAny _ _ (call (Value.ref _) _ _) _ _ _ | show wpAny _ _ (eval (Expr.Subscript _ (Expr.Slice none (some (Expr.BoolOp _ _ _)) none _) _) _) _ _ _ | show wpAny _ _ (exec (Stmt.If _ [Stmt.Assign [Expr.Tuple _ _ _] _ _] _ _) _) _ _ _ | show wpAny _ _ (exec (Stmt.If (Expr.BoolOp _ _ _) [Stmt.Assign [Expr.Name _ _] (Expr.Subscript _ _ _) _] _ _) _) _ _ _)); dsimp only; walk1) | (leave1; (try dsimp only)) | fail "no step"))
  exact hret _ _ _ _ _ (by assumption) (cb_drop (by assumption) (List.forall_mem_cons.mpr ⟨.head _, fun p hp => .tail _ (.tail _ (hsub2 p hp))⟩)) (fun p hp => hlt9 p (.tail _ (hsub2 p hp))) hI9
end Mine
end

section
namespace Mine
section
variable {prog : Program} {w : World} {A : Around} {R : GenEnd} {Y : Protocol} {n : Nat} {s₀ : Shared} {fs : List Frame} {s : Shared} {env : Env} {c : Code}
  {K : Flow → Sem Fin} {H : Value → Sem Fin} {gd : Bool → Bool} {lv : List Value → List Value}
/-- a turn of a for within a generator -/
theorem seg_for {target : Expr} {it : Value} {body orelse : List Stmt} (ht : ∀ v, letOwnedTupleGo target it v = pure ())
    (h : wpAny (model prog w) (A.over (.forLoop target it body orelse env) fs) (pyNext it) (fun r s₁ => match r with
      | none => Seg (model prog w) A R Y n s₀ (.forLoop target it body orelse env) (.pure (.again (.block orelse env))) fs s₁
      | some v => wpAny (model prog w) (A.over (.forLoop target it body orelse env) fs) (assign target env v) (fun _ s₂ =>
          Seg (model prog w) A R Y n s₀ (.forLoop target it body orelse env) ((execs body env).wrap (fun f => match f with
            | .next | .cont => .pure (.again (.forLoop target it body orelse env))
            | .brk => .pure (.done .next)
            | .ret v => .pure (.done (.ret v))) (fun e => (do noteFrame e env; theTreesLotGoes e : Sem Unit).wrap (fun _ => .raise e) .raise id id) id id) fs s₂) (fun _ _ => False) s₁) (fun _ _ => False) s) :
    Seg (model prog w) A R Y n s₀ (.forLoop target it body orelse env) ((model prog w).den (.forLoop target it body orelse env)) fs s := by
  show Seg _ A R Y n s₀ _ ((forTurn target it body orelse env).onRaise (fun x => do noteFrame x env; theTreesLotGoes x)) fs s
  unfold forTurn
  rw [Sem.onRaise_eq_wrap, Sem.bind_eq_wrap', Sem.wrap_wrap]
  refine seg_wrap (wpAny_standAt ?_)
  rw [Sem.bind_eq_wrap', Sem.wrap_wrap]
  refine seg_wrap (wpAny_onRaise (wpAny_mono h (fun r s₁ h₁ => ?_) fun _ _ z => z.elim))
  cases r with
  | none => exact h₁
  | some v =>
    show Seg _ A R Y n s₀ _ (Sem.wrap _ _ _ _ (letOwnedTupleGo target it v >>= _)) fs s₁
    rw [ht v]
    show Seg _ A R Y n s₀ _ (Sem.wrap _ _ _ _ (assign target env v >>= _)) fs s₁
    rw [Sem.bind_eq_wrap', Sem.wrap_wrap]
    refine seg_wrap (wpAny_mono h₁ (fun _ s₂ h₂ => ?_) fun _ _ z => z.elim)
    show Seg _ A R Y n s₀ _ (Sem.wrap _ _ _ _ (execs body env >>= _)) fs s₂
    rw [Sem.bind_eq_wrap', Sem.wrap_wrap]
    rw [Sem.wrap_congr (execs body env) _ _ (K' := fun f => match f with
            | .next | .cont => .pure (.again (.forLoop target it body orelse env))
            | .brk => .pure (.done .next)
            | .ret v => .pure (.done (.ret v))) (H' := (fun e => (do noteFrame e env; theTreesLotGoes e : Sem Unit).wrap (fun _ => .raise e) .raise id id))
        (fun f => by cases f <;> rfl)
        (fun e => by first | exact Sem.bind_eq_wrap _ _ | (show (do noteFrame e env; theTreesLotGoes e : Sem Unit).bind (fun _ => .raise e) = _; rw [Sem.bind_eq_wrap]))]
    exact h₂
theorem seg_if {test : Expr} {body orelse : List Stmt} {pos : Pos}
    (h : wpAny (model prog w) (A.over c fs) (isTrue test env (eval test env)) (fun b s' => if b = true then Seg (model prog w) A R Y n s₀ c ((execs body env).wrap K H gd lv) fs s' else Seg (model prog w) A R Y n s₀ c ((execs orelse env).wrap K H gd lv) fs s') (fun _ _ => False) s) :
    Seg (model prog w) A R Y n s₀ c ((exec (.If test body orelse pos) env).wrap K H gd lv) fs s := by
  rw [exec_If]
  rw [Sem.bind_eq_wrap', Sem.wrap_wrap]
  refine seg_wrap (wpAny_standAt ?_)
  rw [Sem.bind_eq_wrap', Sem.wrap_wrap]
  refine seg_wrap (wpAny_mono h (fun b s' hb => ?_) fun _ _ z => z.elim)
  cases b with
  | true => rw [if_pos rfl] at hb; exact hb
  | false => rw [if_neg Bool.false_ne_true] at hb; exact hb
/-- a statement that does not yield -/
theorem seg_st {st : Stmt} {rest : List Stmt}
    (h : wpAny (model prog w) (A.over c fs) (exec st env) (fun f s' => Seg (model prog w) A R Y n s₀ c (match f with | .next => (execs rest env).wrap K H gd lv | f => K f) fs s') (fun x s' => Seg (model prog w) A R Y n s₀ c (H x) fs s') s) :
    Seg (model prog w) A R Y n s₀ c ((execs (st :: rest) env).wrap K H gd lv) fs s := seg_execs_cons (seg_wrap h)
theorem seg_For {target iter : Expr} {body orelse : List Stmt} {pos : Pos} (hs : ∀ x, foldedSetIterable iter env x = pure x)
    (h : wpAny (model prog w) (A.over c fs) (eval iter env) (fun xv s₁ => wpAny (model prog w) (A.over c fs) (pyIter xv) (fun it s₂ => ∀ p, Seg (model prog w) A R Y n s₀ (.forLoop target it body orelse env) ((model prog w).den (.forLoop target it body orelse env))
      (.ret (fun r => ((match r with | .ok f => (.pure f : Sem Flow) | .error e => .raise e).onRaise fun (x : Value) => do
        if (← field x 1) == Value.none then unsupported "frame.own-activation:exception-without-traceback"
        setFlight x env.frame).wrap K H gd lv) none (gd false) (lv []) c p [] :: fs) s₂) (fun _ _ => False) s₁) (fun _ _ => False) s) :
    Seg (model prog w) A R Y n s₀ c ((exec (.For target iter body orelse pos) env).wrap K H gd lv) fs s := by
  rw [exec_For]
  rw [Sem.bind_eq_wrap', Sem.wrap_wrap]
  refine seg_wrap (wpAny_standAt ?_)
  rw [Sem.bind_eq_wrap', Sem.wrap_wrap]
  refine seg_wrap (wpAny_mono h (fun xv s₁ h₁ => ?_) fun _ _ z => z.elim)
  rw [hs xv]
  show Seg _ A R Y n s₀ _ (Sem.wrap _ _ _ _ (standAt iter.pos >>= _)) fs s₁
  rw [Sem.bind_eq_wrap', Sem.wrap_wrap]
  refine seg_wrap (wpAny_standAt ?_)
  rw [Sem.bind_eq_wrap', Sem.wrap_wrap]
  refine seg_wrap (wpAny_holding (wpAny_mono h₁ (fun it s₂ h₂ => ?_) fun _ _ z => z.elim))
  exact seg_call h₂
example {dp un : Nat} {gd : Option (List Code)} {cn : Str} {cs : Scope} {L a : Addr} {ccd : Value} {cl : List (Str × Addr)} {outer : List Env} {body : List Stmt} {q : Str} {sc : Scope} {C f : Addr} {cd : Value} :
    (ktrTop dp un gd cn cs L a ccd cl outer).in1.over (.func body (envOf q sc C f cd)) [] = ktrTop (dp + 1) (un + 4) gd q sc C f cd [] (envX cn cs L a ccd cl :: outer) := by
  rfl
end
end Mine
end

section
namespace Mine
structure DefAt (K : Frag) (f : Addr) where
  name : Str
  qual : Str
  params : Arguments
  body : List Stmt
  scope : Scope
  dV : Value
  kV : Value
  doc : Value
  pm : Value
  cdv : Value
  ct : Value
  oc : Value
  an : Option Addr
  od : Option Addr
  osl : Array (Option Value)
  ho : K.lookup f = some ⟨oc, od, .func (fnOf name qual params body scope dV kV doc pm an cdv ct), osl⟩
noncomputable def gDef (w : World) : DefAt (hd.heap_39 w.params) 35 := by
  refine ⟨?_, ?_, ?_, ?_, ?_, ?_, ?_, ?_, ?_, ?_, ?_, ?_, ?_, ?_, ?_, ?ho⟩
  case ho => exact rfl
noncomputable def gIn (w : World) : List Stmt := match (gDef w).body with
  | _ :: .For _ _ b _ _ :: _ => b
  | _ => []
noncomputable def gTg (w : World) : Expr := match (gDef w).body with
  | _ :: .For t _ _ _ _ :: _ => t
  | _ => .Constant .none 0 ⟨0, 0, 0, 0⟩
noncomputable def gTest (w : World) : Expr := match gIn w with
  | _ :: .If _ (_ :: .While t _ _ _ :: _) _ _ :: _ => t
  | _ => .Constant .none 0 ⟨0, 0, 0, 0⟩
noncomputable def gWh (w : World) : List Stmt := match gIn w with
  | _ :: .If _ (_ :: .While _ b _ _ :: _) _ _ :: _ => b
  | _ => []
noncomputable abbrev gEnv (w : World) (C : Addr) : Env := envOf (gDef w).qual (gDef w).scope C 35 (gDef w).cdv
noncomputable abbrev gFun (w : World) (C : Addr) : Code := .func (gDef w).body (gEnv w C)
noncomputable abbrev gFor (w : World) (C It : Addr) : Code := .forLoop (gTg w) (.ref It) (gIn w) [] (gEnv w C)
noncomputable abbrev gWhl (w : World) (C : Addr) : Code := .whileLoop (gTest w) (gWh w) [] (gEnv w C)
/-- what a resume finds: the next place, what was told last -/
inductive GP where
  | start
  | «at» (i : Nat) (v : Int)
  | rep (v : Int)
/-- a read at place i behind the last told l -/
noncomputable def rdAt (xs : List Int) (i : Nat) (l : Option Int) : Option (Int × GP) := match xs[i]? with
  | none => none
  | some v => if v = 127 then none else if v = 0 then l.map (fun u => (u, .rep u)) else some (v, .at (i + 1) v)
noncomputable def rd (xs : List Int) : GP → Option (Int × GP)
  | .start => rdAt xs 0 none
  | .at i v => rdAt xs i (some v)
  | .rep v => some (v, .rep v)
noncomputable def Kept (C G : Addr) (h h' : Heap) : Prop := ∀ b o, b ≤ G → b ≠ C → h.get? b = some o → h'.get? b = some o
noncomputable def gm (aa : Addr) (l : Value) (iv : Option Value) : Str → Option Value := fun y => if y = Str.ofString "interval" then iv else if y = Str.ofString "last_interval" then some l else List.lookup y [(Str.ofString "grouping", .ref aa)]
noncomputable def lv : Option Int → Tok → Value
  | none, _ => .none
  | some u, t => .int u t
noncomputable abbrev fs1 (w : World) (C : Addr) (kF : Result → Sem Fin) (p : Pos) : List Frame := [.ret kF none false [] (gFun w C) p []]
theorem ints_get? {vs : List Value} {xs : List Int} (h : IntsAre vs xs) : ∀ i : Nat, (∃ v t, xs[i]? = some v ∧ vs[i]? = some (Value.int v t)) ∨ (xs[i]? = none ∧ vs[i]? = none) := by
  induction h with
  | nil => intro i; right; simp
  | cons n t _ ih =>
    intro i
    cases i with
    | zero => left; exact ⟨n, t, rfl, rfl⟩
    | succ i => simpa using ih i
theorem seg_read {w : World} {dp un : Nat} {gd : Option (List Code)} {cn : Str} {cs : Scope} {L a : Addr} {ccd : Value} {cl : List (Str × Addr)} {outer : List Env} {mean : ExcName → Option Value} {mg mb : Str → Option Value} {h₀ : Heap}
    {R : GenEnd} {Y : Protocol} {n : Nat} {C It : Addr} {s₀ s : Shared} {aa : Addr} {vs : List Value} {e : Nat} {xs : List Int} {news : List (Addr × Obj)} {kF : Result → Sem Fin} {p : Pos} {i : Nat} {l : Option Int} {t : Tok} {iv : Option Value}
    (hX : (hd.heap_39 w.params).In h₀) (hT : Top hd.view_39 (looseW hd.view_39 []) mean mg mb h₀) 
    (hF : Fr h₀ C s.heap (gm aa (lv l t) iv)) (hN : News h₀ C s.heap news) (ha : (aa, listOf vs.toArray e) ∈ news) (hi : IntsAre vs xs)
    (hit : s.heap.IsListIter It aa i) (hIn : ∀ p ∈ news, p.1 ≠ It) (hIC : It ≠ C) (hI0 : h₀.get? It = none)
    (done : ∀ h' tk', rdAt xs i l = none → News h₀ C h' news → (∀ b o, h₀.get? b = some o → h'.get? b = some o) → R (n + 1) s₀ (.ok (.ret .none)) { s with heap := h', toks := tk' })
    (kr : ∀ s', R (n + 1) s₀ (.ok (.ret .none)) s' → Seg (model Challenge.rw_ph0059_01.row.prog w) (ktrTop dp un gd cn cs L a ccd cl outer).in1 R Y (n + 1) s₀ (gFun w C) (kF (.ok (.ret .none))) [] s')
    (kn : ∀ s', R (n + 1) s₀ (.ok (.ret .none)) s' → Seg (model Challenge.rw_ph0059_01.row.prog w) (ktrTop dp un gd cn cs L a ccd cl outer).in1 R Y (n + 1) s₀ (gFun w C) (kF (.ok .next)) [] s')
    (hbad : ¬ (xs[i]? = some 0 ∧ l = none))
    (ym : ∀ v t' h' tk' kap, rdAt xs i l = some (v, .at (i + 1) v) → Fr h₀ C h' (gm aa (lv l t) (some (.int v t'))) → News h₀ C h' news → h'.IsListIter It aa (i + 1) →
      (∀ s'', (Seg (model Challenge.rw_ph0059_01.row.prog w) (ktrTop dp un gd cn cs L a ccd cl outer).in1 R Y n s'' (gFor w C It) ((execs ((gIn w).drop 3) (gEnv w C)).wrap (fun f => match f with
            | .next | .cont => .pure (.again (gFor w C It))
            | .brk => .pure (.done .next)
            | .ret v => .pure (.done (.ret v))) (fun e => (do noteFrame e (gEnv w C); theTreesLotGoes e : Sem Unit).wrap (fun _ => .raise e) .raise id id) id id) (fs1 w C kF p) s'') → kap (.send .none) s'') →
      Y n s₀ (.int v t') { s with heap := h', toks := tk' } kap)
    (yr : ∀ u h' tk' kF' p' kap iv', rdAt xs i l = some (u, .rep u) → Fr h₀ C h' (gm aa (.int u t) iv') → News h₀ C h' news → h'.IsListIter It aa (i + 1) →
      (∀ s'', (Seg (model Challenge.rw_ph0059_01.row.prog w) (ktrTop dp un gd cn cs L a ccd cl outer).in1 R Y n s'' (gWhl w C) (.pure (.again (gWhl w C))) (.ret kF' none false [] (gFor w C It) p' [] :: fs1 w C kF p) s'') → kap (.send .none) s'') →
      Y n s₀ (.int u t) { s with heap := h', toks := tk' } kap) :
    Seg (model Challenge.rw_ph0059_01.row.prog w) (ktrTop dp un gd cn cs L a ccd cl outer).in1 R Y (n + 1) s₀ (gFor w C It) ((model Challenge.rw_ph0059_01.row.prog w).den (gFor w C It)) (fs1 w C kF p) s := by
  k_fill
  have hl : s.heap.IsList aa vs.toArray := hN.isList ha
  refine seg_for (fun v => rfl) ?_
  show wpAny _ (ktrTop (dp + 1) (un + 4) gd (gDef w).qual (gDef w).scope C 35 (gDef w).cdv [] (envX cn cs L a ccd cl :: outer)) _ _ _ _
  rcases ints_get? hi i with ⟨v, t', hxv, hvv⟩ | ⟨hx, hv⟩
  case inr =>
    refine wpAny_pyNext_list_end rfl hit hl (by simpa using hv) fun h' he => ?_
    have N' : News h₀ C h' news := extBut_news hN he hIn
    refine seg_again rfl ?_
    have hr : rdAt xs i l = none := by unfold rdAt; rw [hx]
    exact seg_leaf (.ok .next) (kn _ (done h' _ hr N' fun b o hb => he b o (fun q => by rw [q, hI0] at hb; cases hb) (hF.keep b o hb)))
  case inl =>
    refine wpAny_pyNext_list_item hit hl (by simpa using hvv) fun h' hit' hs => ?_
    have F' := sameBut_fr hF hs hIC.symm hI0
    have N' := sameBut_news hN hs hIn
    obtain ⟨oI, hoI, hoI2⟩ := id hit'
    have N2 : News h₀ C h' ((It, oI) :: news) := fun q hq => by
      rcases List.mem_cons.mp hq with rfl | hq
      · exact ⟨hoI, hIC, hI0⟩
      · exact N' q hq
    clear hF hN N' hit hl
    show wpAny _ _ _ _ _ _
    w_on
    (try dsimp only [gTg, gDef])
    k_fold
    (repeat' (first | (k_unfold; (try dsimp only)) | ((fail_if_success (with_reducible first | show wpAny _ _ (exec (Stmt.For _ _ _ _ _) _) _ _ _ | show wpAny _ _ (exec (Stmt.While _ _ _ _) _) _ _ _ | show wpAny _ _ (pyIter _) _ _ _ | show wpAny _ _ (call (Value.ref _) _ _) _ _ _ | show wpAny _ _ (eval (Expr.Subscript _ (Expr.Slice none (some (Expr.BoolOp _ _ _)) none _) _) _) _ _ _ | show wpAny _ _ (exec (Stmt.If _ [Stmt.Assign [Expr.Tuple _ _ _] _ _] _ _) _) _ _ _ | show wpAny _ _ (exec (Stmt.If (Expr.BoolOp _ _ _) [Stmt.Assign [Expr.Name _ _] (Expr.Subscript _ _ _) _] _ _) _) _ _ _)); walk1; (try dsimp only)) | ((fail_if_success (with_reducible first | show wpAny _ _ (exec (Stmt.For _ _ _ _ _) _) _ _ _ | show wpAny _ _ (exec (Stmt.While _ _ _ _) _) _ _ _ | show wpAny _ _ (pyIter _) _ _ _ | show wpAny _ _ (call (Value.ref _) _ _) _ _ _ | show wpAny _ _ (eval (Expr.Subscript _ (Expr.Slice none (some (Expr.BoolOp _ _ _)) none _) _) _) _ _ _ | show wpAny _ _ (exec (Stmt.If _ [Stmt.Assign [Expr.Tuple _ _ _] _ _] _ _) _) _ _ _ | show wpAny _ _ (exec (Stmt.If (Expr.BoolOp _ _ _) [Stmt.Assign [Expr.Name _ _] (Expr.Subscript _ _ _) _] _ _) _) _ _ _)); dsimp only; walk1) | (leave1; (try dsimp only)) | fail "no step"))
    refine seg_st (st := _) (rest := _) ?_
    show wpAny _ (ktrTop (dp + 1) (un + 4) gd (gDef w).qual (gDef w).scope C 35 (gDef w).cdv [] (envX cn cs L a ccd cl :: outer)) _ _ _ _
    (repeat' (first | (k_unfold; (try dsimp only)) | ((fail_if_success (with_reducible first | show wpAny _ _ (exec (Stmt.For _ _ _ _ _) _) _ _ _ | show wpAny _ _ (exec (Stmt.While _ _ _ _) _) _ _ _ | show wpAny _ _ (pyIter _) _ _ _ | show wpAny _ _ (call (Value.ref _) _ _) _ _ _ | show wpAny _ _ (eval (Expr.Subscript _ (Expr.Slice none (some (Expr.BoolOp _ _ _)) none _) _) _) _ _ _ | show wpAny _ _ (exec (Stmt.If _ [Stmt.Assign [Expr.Tuple _ _ _] _ _] _ _) _) _ _ _ | show wpAny _ _ (exec (Stmt.If (Expr.BoolOp _ _ _) [Stmt.Assign [Expr.Name _ _] (Expr.Subscript _ _ _) _] _ _) _) _ _ _)); walk1; (try dsimp only)) | ((fail_if_success (with_reducible first | show wpAny _ _ (exec (Stmt.For _ _ _ _ _) _) _ _ _ | show wpAny _ _ (exec (Stmt.While _ _ _ _) _) _ _ _ | show wpAny _ _ (pyIter _) _ _ _ | show wpAny _ _ (call (Value.ref _) _ _) _ _ _ | show wpAny _ _ (eval (Expr.Subscript _ (Expr.Slice none (some (Expr.BoolOp _ _ _)) none _) _) _) _ _ _ | show wpAny _ _ (exec (Stmt.If _ [Stmt.Assign [Expr.Tuple _ _ _] _ _] _ _) _) _ _ _ | show wpAny _ _ (exec (Stmt.If (Expr.BoolOp _ _ _) [Stmt.Assign [Expr.Name _ _] (Expr.Subscript _ _ _) _] _ _) _) _ _ _)); dsimp only; walk1) | (leave1; (try dsimp only)) | fail "no step"))
    all_goals (try dsimp only)
    · rename Fr _ _ _ _ => F3
      rename News _ _ _ _ => N3
      have hr : rdAt xs i l = none := by unfold rdAt; rw [hxv]; simp only [*, if_true]
      exact seg_leaf (.ok (.ret .none)) (kr _ (done _ _ hr (fun q hq => N3 q (.tail _ hq)) F3.keep))
    · refine seg_execs_cons (seg_if ?_)
      show wpAny _ (ktrTop (dp + 1) (un + 4) gd (gDef w).qual (gDef w).scope C 35 (gDef w).cdv [] (envX cn cs L a ccd cl :: outer)) _ _ _ _
      clear kr kn done
      w_on
      (repeat' (first | (k_unfold; (try dsimp only)) | ((fail_if_success (with_reducible first | show wpAny _ _ (exec (Stmt.For _ _ _ _ _) _) _ _ _ | show wpAny _ _ (exec (Stmt.While _ _ _ _) _) _ _ _ | show wpAny _ _ (pyIter _) _ _ _ | show wpAny _ _ (call (Value.ref _) _ _) _ _ _ | show wpAny _ _ (eval (Expr.Subscript _ (Expr.Slice none (some (Expr.BoolOp _ _ _)) none _) _) _) _ _ _ | show wpAny _ _ (exec (Stmt.If _ [Stmt.Assign [Expr.Tuple _ _ _] _ _] _ _) _) _ _ _ | show wpAny _ _ (exec (Stmt.If (Expr.BoolOp _ _ _) [Stmt.Assign [Expr.Name _ _] (Expr.Subscript _ _ _) _] _ _) _) _ _ _)); walk1; (try dsimp only)) | ((fail_if_success (with_reducible first | show wpAny _ _ (exec (Stmt.For _ _ _ _ _) _) _ _ _ | show wpAny _ _ (exec (Stmt.While _ _ _ _) _) _ _ _ | show wpAny _ _ (pyIter _) _ _ _ | show wpAny _ _ (call (Value.ref _) _ _) _ _ _ | show wpAny _ _ (eval (Expr.Subscript _ (Expr.Slice none (some (Expr.BoolOp _ _ _)) none _) _) _) _ _ _ | show wpAny _ _ (exec (Stmt.If _ [Stmt.Assign [Expr.Tuple _ _ _] _ _] _ _) _) _ _ _ | show wpAny _ _ (exec (Stmt.If (Expr.BoolOp _ _ _) [Stmt.Assign [Expr.Name _ _] (Expr.Subscript _ _ _) _] _ _) _) _ _ _)); dsimp only; walk1) | (leave1; (try dsimp only)) | fail "no step"))
      all_goals (try dsimp only)
      · cases l with
        | none => exact absurd ⟨by rw [hxv]; simp only [*], rfl⟩ hbad
        | some u =>
        refine seg_st (st := _) (rest := _) ?_
        show wpAny _ (ktrTop (dp + 1) (un + 4) gd (gDef w).qual (gDef w).scope C 35 (gDef w).cdv [] (envX cn cs L a ccd cl :: outer)) _ _ _ _
        (try dsimp only [lv, gm] at *)
        (repeat' (first | (k_unfold; (try dsimp only)) | ((fail_if_success (with_reducible first | show wpAny _ _ (exec (Stmt.For _ _ _ _ _) _) _ _ _ | show wpAny _ _ (exec (Stmt.While _ _ _ _) _) _ _ _ | show wpAny _ _ (pyIter _) _ _ _ | show wpAny _ _ (call (Value.ref _) _ _) _ _ _ | show wpAny _ _ (eval (Expr.Subscript _ (Expr.Slice none (some (Expr.BoolOp _ _ _)) none _) _) _) _ _ _ | show wpAny _ _ (exec (Stmt.If _ [Stmt.Assign [Expr.Tuple _ _ _] _ _] _ _) _) _ _ _ | show wpAny _ _ (exec (Stmt.If (Expr.BoolOp _ _ _) [Stmt.Assign [Expr.Name _ _] (Expr.Subscript _ _ _) _] _ _) _) _ _ _)); walk1; (try dsimp only)) | ((fail_if_success (with_reducible first | show wpAny _ _ (exec (Stmt.For _ _ _ _ _) _) _ _ _ | show wpAny _ _ (exec (Stmt.While _ _ _ _) _) _ _ _ | show wpAny _ _ (pyIter _) _ _ _ | show wpAny _ _ (call (Value.ref _) _ _) _ _ _ | show wpAny _ _ (eval (Expr.Subscript _ (Expr.Slice none (some (Expr.BoolOp _ _ _)) none _) _) _) _ _ _ | show wpAny _ _ (exec (Stmt.If _ [Stmt.Assign [Expr.Tuple _ _ _] _ _] _ _) _) _ _ _ | show wpAny _ _ (exec (Stmt.If (Expr.BoolOp _ _ _) [Stmt.Assign [Expr.Name _ _] (Expr.Subscript _ _ _) _] _ _) _) _ _ _)); dsimp only; walk1) | (leave1; (try dsimp only)) | fail "no step"))
        all_goals (try dsimp only)
        refine seg_execs_cons (seg_While fun p' => seg_whileLoop ?_)
        show wpAny _ (ktrTop (dp + 1) (un + 4) gd (gDef w).qual (gDef w).scope C 35 (gDef w).cdv [] (envX cn cs L a ccd cl :: outer)) _ _ _ _
        (repeat' (first | (k_unfold; (try dsimp only)) | ((fail_if_success (with_reducible first | show wpAny _ _ (exec (Stmt.For _ _ _ _ _) _) _ _ _ | show wpAny _ _ (exec (Stmt.While _ _ _ _) _) _ _ _ | show wpAny _ _ (pyIter _) _ _ _ | show wpAny _ _ (call (Value.ref _) _ _) _ _ _ | show wpAny _ _ (eval (Expr.Subscript _ (Expr.Slice none (some (Expr.BoolOp _ _ _)) none _) _) _) _ _ _ | show wpAny _ _ (exec (Stmt.If _ [Stmt.Assign [Expr.Tuple _ _ _] _ _] _ _) _) _ _ _ | show wpAny _ _ (exec (Stmt.If (Expr.BoolOp _ _ _) [Stmt.Assign [Expr.Name _ _] (Expr.Subscript _ _ _) _] _ _) _) _ _ _)); walk1; (try dsimp only)) | ((fail_if_success (with_reducible first | show wpAny _ _ (exec (Stmt.For _ _ _ _ _) _) _ _ _ | show wpAny _ _ (exec (Stmt.While _ _ _ _) _) _ _ _ | show wpAny _ _ (pyIter _) _ _ _ | show wpAny _ _ (call (Value.ref _) _ _) _ _ _ | show wpAny _ _ (eval (Expr.Subscript _ (Expr.Slice none (some (Expr.BoolOp _ _ _)) none _) _) _) _ _ _ | show wpAny _ _ (exec (Stmt.If _ [Stmt.Assign [Expr.Tuple _ _ _] _ _] _ _) _) _ _ _ | show wpAny _ _ (exec (Stmt.If (Expr.BoolOp _ _ _) [Stmt.Assign [Expr.Name _ _] (Expr.Subscript _ _ _) _] _ _) _) _ _ _)); dsimp only; walk1) | (leave1; (try dsimp only)) | fail "no step"))
        all_goals (try dsimp only)
        refine seg_execs_cons (seg_Expr_Yield rfl rfl rfl ?_)
        show wpAny _ (ktrTop (dp + 1) (un + 4) gd (gDef w).qual (gDef w).scope C 35 (gDef w).cdv [] (envX cn cs L a ccd cl :: outer)) _ _ _ _
        (repeat' (first | (k_unfold; (try dsimp only)) | ((fail_if_success (with_reducible first | show wpAny _ _ (exec (Stmt.For _ _ _ _ _) _) _ _ _ | show wpAny _ _ (exec (Stmt.While _ _ _ _) _) _ _ _ | show wpAny _ _ (pyIter _) _ _ _ | show wpAny _ _ (call (Value.ref _) _ _) _ _ _ | show wpAny _ _ (eval (Expr.Subscript _ (Expr.Slice none (some (Expr.BoolOp _ _ _)) none _) _) _) _ _ _ | show wpAny _ _ (exec (Stmt.If _ [Stmt.Assign [Expr.Tuple _ _ _] _ _] _ _) _) _ _ _ | show wpAny _ _ (exec (Stmt.If (Expr.BoolOp _ _ _) [Stmt.Assign [Expr.Name _ _] (Expr.Subscript _ _ _) _] _ _) _) _ _ _)); walk1; (try dsimp only)) | ((fail_if_success (with_reducible first | show wpAny _ _ (exec (Stmt.For _ _ _ _ _) _) _ _ _ | show wpAny _ _ (exec (Stmt.While _ _ _ _) _) _ _ _ | show wpAny _ _ (pyIter _) _ _ _ | show wpAny _ _ (call (Value.ref _) _ _) _ _ _ | show wpAny _ _ (eval (Expr.Subscript _ (Expr.Slice none (some (Expr.BoolOp _ _ _)) none _) _) _) _ _ _ | show wpAny _ _ (exec (Stmt.If _ [Stmt.Assign [Expr.Tuple _ _ _] _ _] _ _) _) _ _ _ | show wpAny _ _ (exec (Stmt.If (Expr.BoolOp _ _ _) [Stmt.Assign [Expr.Name _ _] (Expr.Subscript _ _ _) _] _ _) _) _ _ _)); dsimp only; walk1) | (leave1; (try dsimp only)) | fail "no step"))
        rename Fr _ _ _ _ => F3
        rename News _ _ _ _ => N3
        rename ∀ _ _, _ → _ => hk
        refine yr u _ _ _ _ _ (some (.int v t')) ?_ (fr_eq F3 fun y => ?_) (fun q hq => N3 q (.tail _ hq)) ⟨_, (N3 _ (.head _)).1, hoI2⟩ fun s'' hs'' => hk .none s'' hs''
        · unfold rdAt; rw [hxv]; simp [*]
        · (try dsimp only [gm])
          split <;> rfl
      · refine seg_execs_nil ?_
        (try dsimp only)
        refine seg_execs_cons (seg_Expr_Yield rfl rfl rfl ?_)
        show wpAny _ (ktrTop (dp + 1) (un + 4) gd (gDef w).qual (gDef w).scope C 35 (gDef w).cdv [] (envX cn cs L a ccd cl :: outer)) _ _ _ _
        (repeat' (first | (k_unfold; (try dsimp only)) | ((fail_if_success (with_reducible first | show wpAny _ _ (exec (Stmt.For _ _ _ _ _) _) _ _ _ | show wpAny _ _ (exec (Stmt.While _ _ _ _) _) _ _ _ | show wpAny _ _ (pyIter _) _ _ _ | show wpAny _ _ (call (Value.ref _) _ _) _ _ _ | show wpAny _ _ (eval (Expr.Subscript _ (Expr.Slice none (some (Expr.BoolOp _ _ _)) none _) _) _) _ _ _ | show wpAny _ _ (exec (Stmt.If _ [Stmt.Assign [Expr.Tuple _ _ _] _ _] _ _) _) _ _ _ | show wpAny _ _ (exec (Stmt.If (Expr.BoolOp _ _ _) [Stmt.Assign [Expr.Name _ _] (Expr.Subscript _ _ _) _] _ _) _) _ _ _)); walk1; (try dsimp only)) | ((fail_if_success (with_reducible first | show wpAny _ _ (exec (Stmt.For _ _ _ _ _) _) _ _ _ | show wpAny _ _ (exec (Stmt.While _ _ _ _) _) _ _ _ | show wpAny _ _ (pyIter _) _ _ _ | show wpAny _ _ (call (Value.ref _) _ _) _ _ _ | show wpAny _ _ (eval (Expr.Subscript _ (Expr.Slice none (some (Expr.BoolOp _ _ _)) none _) _) _) _ _ _ | show wpAny _ _ (exec (Stmt.If _ [Stmt.Assign [Expr.Tuple _ _ _] _ _] _ _) _) _ _ _ | show wpAny _ _ (exec (Stmt.If (Expr.BoolOp _ _ _) [Stmt.Assign [Expr.Name _ _] (Expr.Subscript _ _ _) _] _ _) _) _ _ _)); dsimp only; walk1) | (leave1; (try dsimp only)) | fail "no step"))
        rename Fr _ _ _ _ => F3
        rename News _ _ _ _ => N3
        rename ∀ _ _, _ → _ => hk
        refine ym v _ _ _ _ ?_ (fr_eq F3 fun y => ?_) (fun q hq => N3 q (.tail _ hq)) ⟨_, (N3 _ (.head _)).1, hoI2⟩ fun s'' hs'' => hk .none s'' hs''
        · unfold rdAt; rw [hxv]; simp [*]
        · (try dsimp only [gm])
          split <;> rfl
/-- behind the yield of an item: the item is the last one told -/
theorem seg_at' {w : World} {dp un : Nat} {gd : Option (List Code)} {cn : Str} {cs : Scope} {L a : Addr} {ccd : Value} {cl : List (Str × Addr)} {outer : List Env} {mean : ExcName → Option Value} {mg mb : Str → Option Value} {h₀ : Heap}
    {R : GenEnd} {Y : Protocol} {n : Nat} {C It : Addr} {s₀ s : Shared} {aa : Addr} {news : List (Addr × Obj)} {kF : Result → Sem Fin} {p : Pos} {v : Int} {t : Tok} {l : Value}
    (hX : (hd.heap_39 w.params).In h₀) (hT : Top hd.view_39 (looseW hd.view_39 []) mean mg mb h₀)
    (hF : Fr h₀ C s.heap (gm aa l (some (.int v t)))) (hN : News h₀ C s.heap news)
    (go : ∀ h' tk', Fr h₀ C h' (gm aa (.int v t) (some (.int v t))) → News h₀ C h' news → Seg (model Challenge.rw_ph0059_01.row.prog w) (ktrTop dp un gd cn cs L a ccd cl outer).in1 R Y n s₀ (gFor w C It) (.pure (.again (gFor w C It))) (fs1 w C kF p) { s with heap := h', toks := tk' }) :
    Seg (model Challenge.rw_ph0059_01.row.prog w) (ktrTop dp un gd cn cs L a ccd cl outer).in1 R Y n s₀ (gFor w C It) ((execs ((gIn w).drop 3) (gEnv w C)).wrap (fun f => match f with
            | .next | .cont => .pure (.again (gFor w C It))
            | .brk => .pure (.done .next)
            | .ret v => .pure (.done (.ret v))) (fun e => (do noteFrame e (gEnv w C); theTreesLotGoes e : Sem Unit).wrap (fun _ => .raise e) .raise id id) id id) (fs1 w C kF p) s := by
  k_fill
  refine seg_st (st := _) (rest := _) ?_
  show wpAny _ (ktrTop (dp + 1) (un + 4) gd (gDef w).qual (gDef w).scope C 35 (gDef w).cdv [] (envX cn cs L a ccd cl :: outer)) _ _ _ _
  w_on
  unfold gm at hF
  (repeat' (first | (k_unfold; (try dsimp only)) | ((fail_if_success (with_reducible first | show wpAny _ _ (exec (Stmt.For _ _ _ _ _) _) _ _ _ | show wpAny _ _ (exec (Stmt.While _ _ _ _) _) _ _ _ | show wpAny _ _ (pyIter _) _ _ _ | show wpAny _ _ (call (Value.ref _) _ _) _ _ _ | show wpAny _ _ (eval (Expr.Subscript _ (Expr.Slice none (some (Expr.BoolOp _ _ _)) none _) _) _) _ _ _ | show wpAny _ _ (exec (Stmt.If _ [Stmt.Assign [Expr.Tuple _ _ _] _ _] _ _) _) _ _ _ | show wpAny _ _ (exec (Stmt.If (Expr.BoolOp _ _ _) [Stmt.Assign [Expr.Name _ _] (Expr.Subscript _ _ _) _] _ _) _) _ _ _)); walk1; (try dsimp only)) | ((fail_if_success (with_reducible first | show wpAny _ _ (exec (Stmt.For _ _ _ _ _) _) _ _ _ | show wpAny _ _ (exec (Stmt.While _ _ _ _) _) _ _ _ | show wpAny _ _ (pyIter _) _ _ _ | show wpAny _ _ (call (Value.ref _) _ _) _ _ _ | show wpAny _ _ (eval (Expr.Subscript _ (Expr.Slice none (some (Expr.BoolOp _ _ _)) none _) _) _) _ _ _ | show wpAny _ _ (exec (Stmt.If _ [Stmt.Assign [Expr.Tuple _ _ _] _ _] _ _) _) _ _ _ | show wpAny _ _ (exec (Stmt.If (Expr.BoolOp _ _ _) [Stmt.Assign [Expr.Name _ _] (Expr.Subscript _ _ _) _] _ _) _) _ _ _)); dsimp only; walk1) | (leave1; (try dsimp only)) | fail "no step"))
  rename Fr _ _ _ _ => F3
  rename News _ _ _ _ => N3
  refine go _ _ (fr_eq F3 fun y => ?_) N3
  unfold gm
  split
  · rename_i e; subst e; rfl
  · split <;> rfl
theorem seg_rep {w : World} {dp un : Nat} {gd : Option (List Code)} {cn : Str} {cs : Scope} {L a : Addr} {ccd : Value} {cl : List (Str × Addr)} {outer : List Env} {mean : ExcName → Option Value} {mg mb : Str → Option Value} {h₀ : Heap}
    {R : GenEnd} {Y : Protocol} {n : Nat} {C It : Addr} {s₀ s : Shared} {aa : Addr} {news : List (Addr × Obj)} {kF kF' : Result → Sem Fin} {p p' : Pos} {v : Int} {t : Tok} {iv : Option Value}
    (hX : (hd.heap_39 w.params).In h₀) (hT : Top hd.view_39 (looseW hd.view_39 []) mean mg mb h₀)
    (hF : Fr h₀ C s.heap (gm aa (.int v t) iv)) (hN : News h₀ C s.heap news)
    (yr : ∀ h' tk' kap, Fr h₀ C h' (gm aa (.int v t) iv) → News h₀ C h' news →
      (∀ s'', (Seg (model Challenge.rw_ph0059_01.row.prog w) (ktrTop dp un gd cn cs L a ccd cl outer).in1 R Y n s'' (gWhl w C) (.pure (.again (gWhl w C))) (.ret kF' none false [] (gFor w C It) p' [] :: fs1 w C kF p) s'') → kap (.send .none) s'') →
      Y n s₀ (.int v t) { s with heap := h', toks := tk' } kap) :
    Seg (model Challenge.rw_ph0059_01.row.prog w) (ktrTop dp un gd cn cs L a ccd cl outer).in1 R Y (n + 1) s₀ (gWhl w C) (.pure (.again (gWhl w C))) (.ret kF' none false [] (gFor w C It) p' [] :: fs1 w C kF p) s := by
  k_fill
  refine seg_again rfl (seg_whileLoop ?_)
  show wpAny _ (ktrTop (dp + 1) (un + 4) gd (gDef w).qual (gDef w).scope C 35 (gDef w).cdv [] (envX cn cs L a ccd cl :: outer)) _ _ _ _
  refine wpAny_mono (Q := fun b s' => b = true ∧ s' = s) (E := fun _ _ => False) ?_ (fun b s' hb => ?_) (fun _ _ z => z.elim)
  · obtain ⟨pp, e⟩ : ∃ pp, gTest w = .Constant (.bool true) 0 pp := ⟨_, rfl⟩
    rw [e]
    w_on
    (repeat' (first | (k_unfold; (try dsimp only)) | ((fail_if_success (with_reducible first | show wpAny _ _ (exec (Stmt.For _ _ _ _ _) _) _ _ _ | show wpAny _ _ (exec (Stmt.While _ _ _ _) _) _ _ _ | show wpAny _ _ (pyIter _) _ _ _ | show wpAny _ _ (call (Value.ref _) _ _) _ _ _ | show wpAny _ _ (eval (Expr.Subscript _ (Expr.Slice none (some (Expr.BoolOp _ _ _)) none _) _) _) _ _ _ | show wpAny _ _ (exec (Stmt.If _ [Stmt.Assign [Expr.Tuple _ _ _] _ _] _ _) _) _ _ _ | show wpAny _ _ (exec (Stmt.If (Expr.BoolOp _ _ _) [Stmt.Assign [Expr.Name _ _] (Expr.Subscript _ _ _) _] _ _) _) _ _ _)); walk1; (try dsimp only)) | ((fail_if_success (with_reducible first | show wpAny _ _ (exec (Stmt.For _ _ _ _ _) _) _ _ _ | show wpAny _ _ (exec (Stmt.While _ _ _ _) _) _ _ _ | show wpAny _ _ (pyIter _) _ _ _ | show wpAny _ _ (call (Value.ref _) _ _) _ _ _ | show wpAny _ _ (eval (Expr.Subscript _ (Expr.Slice none (some (Expr.BoolOp _ _ _)) none _) _) _) _ _ _ | show wpAny _ _ (exec (Stmt.If _ [Stmt.Assign [Expr.Tuple _ _ _] _ _] _ _) _) _ _ _ | show wpAny _ _ (exec (Stmt.If (Expr.BoolOp _ _ _) [Stmt.Assign [Expr.Name _ _] (Expr.Subscript _ _ _) _] _ _) _) _ _ _)); dsimp only; walk1) | (leave1; (try dsimp only)) | fail "no step"))
  obtain ⟨rfl, rfl⟩ := hb
  rw [if_pos rfl]
  w_on
  refine seg_execs_cons (st := _) (rest := _) ?_
  refine seg_Expr_Yield rfl rfl rfl ?_
  show wpAny _ (ktrTop (dp + 1) (un + 4) gd (gDef w).qual (gDef w).scope C 35 (gDef w).cdv [] (envX cn cs L a ccd cl :: outer)) _ _ _ _
  unfold gm at hF yr
  (repeat' (first | (k_unfold; (try dsimp only)) | ((fail_if_success (with_reducible first | show wpAny _ _ (exec (Stmt.For _ _ _ _ _) _) _ _ _ | show wpAny _ _ (exec (Stmt.While _ _ _ _) _) _ _ _ | show wpAny _ _ (pyIter _) _ _ _ | show wpAny _ _ (call (Value.ref _) _ _) _ _ _ | show wpAny _ _ (eval (Expr.Subscript _ (Expr.Slice none (some (Expr.BoolOp _ _ _)) none _) _) _) _ _ _ | show wpAny _ _ (exec (Stmt.If _ [Stmt.Assign [Expr.Tuple _ _ _] _ _] _ _) _) _ _ _ | show wpAny _ _ (exec (Stmt.If (Expr.BoolOp _ _ _) [Stmt.Assign [Expr.Name _ _] (Expr.Subscript _ _ _) _] _ _) _) _ _ _)); walk1; (try dsimp only)) | ((fail_if_success (with_reducible first | show wpAny _ _ (exec (Stmt.For _ _ _ _ _) _) _ _ _ | show wpAny _ _ (exec (Stmt.While _ _ _ _) _) _ _ _ | show wpAny _ _ (pyIter _) _ _ _ | show wpAny _ _ (call (Value.ref _) _ _) _ _ _ | show wpAny _ _ (eval (Expr.Subscript _ (Expr.Slice none (some (Expr.BoolOp _ _ _)) none _) _) _) _ _ _ | show wpAny _ _ (exec (Stmt.If _ [Stmt.Assign [Expr.Tuple _ _ _] _ _] _ _) _) _ _ _ | show wpAny _ _ (exec (Stmt.If (Expr.BoolOp _ _ _) [Stmt.Assign [Expr.Name _ _] (Expr.Subscript _ _ _) _] _ _) _) _ _ _)); dsimp only; walk1) | (leave1; (try dsimp only)) | fail "no step"))
  rename Fr _ _ _ _ => F3
  rename News _ _ _ _ => N3
  rename ∀ _ _, _ → _ => hk
  exact yr _ _ _ F3 N3 fun s'' hs'' => hk .none s'' hs''
theorem seg_first {w : World} {dp un : Nat} {gd : Option (List Code)} {cn : Str} {cs : Scope} {L a : Addr} {ccd : Value} {cl : List (Str × Addr)} {outer : List Env} {mean : ExcName → Option Value} {mg mb : Str → Option Value} {h₀ : Heap}
    {R : GenEnd} {Y : Protocol} {n : Nat} {C : Addr} {s₀ s : Shared} {aa : Addr} {vs : List Value} {e : Nat} {xs : List Int} {news : List (Addr × Obj)}
    (hX : (hd.heap_39 w.params).In h₀) (hT : Top hd.view_39 (looseW hd.view_39 []) mean mg mb h₀) 
    (hF : Fr h₀ C s.heap (fun y => List.lookup y [(Str.ofString "grouping", .ref aa)])) (hN : News h₀ C s.heap news) (ha : (aa, listOf vs.toArray e) ∈ news) (hi : IntsAre vs xs)
    (go : ∀ It h' tk' kF p, Fr h₀ C h' (gm aa .none none) → News h₀ C h' news → h'.IsListIter It aa 0 → C < It → (∀ p ∈ news, p.1 < It) → kF (.ok (.ret .none)) = leafOf (.ok (.ret .none)) → kF (.ok .next) = leafOf (.ok (.ret .none)) →
      (∃ K : Flow → Sem Fin, ∀ e, kF (.error e) = Sem.wrap K (fun e => (leaving (gEnv w C) e).wrap (fun _ => .raise e) .raise id id) id id ((do
        if (← field e 1) == Value.none then unsupported "frame.own-activation:exception-without-traceback"
        setFlight e (gEnv w C).frame : Sem Unit) >>= fun _ => .raise e)) →
      Seg (model Challenge.rw_ph0059_01.row.prog w) (ktrTop dp un gd cn cs L a ccd cl outer).in1 R Y n s₀ (gFor w C It) ((model Challenge.rw_ph0059_01.row.prog w).den (gFor w C It)) (fs1 w C kF p) { s with heap := h', toks := tk' }) :
    Seg (model Challenge.rw_ph0059_01.row.prog w) (ktrTop dp un gd cn cs L a ccd cl outer).in1 R Y n s₀ (gFun w C) ((model Challenge.rw_ph0059_01.row.prog w).den (gFun w C)) [] s := by
  k_fill
  refine seg_func ?_
  refine seg_st (st := _) (rest := _) ?_
  show wpAny _ (ktrTop (dp + 1) (un + 4) gd (gDef w).qual (gDef w).scope C 35 (gDef w).cdv [] (envX cn cs L a ccd cl :: outer)) _ _ _ _
  w_on
  (try dsimp only [gDef])
  k_fold
  (repeat' (first | (k_unfold; (try dsimp only)) | ((fail_if_success (with_reducible first | show wpAny _ _ (exec (Stmt.For _ _ _ _ _) _) _ _ _ | show wpAny _ _ (exec (Stmt.While _ _ _ _) _) _ _ _ | show wpAny _ _ (pyIter _) _ _ _ | show wpAny _ _ (call (Value.ref _) _ _) _ _ _ | show wpAny _ _ (eval (Expr.Subscript _ (Expr.Slice none (some (Expr.BoolOp _ _ _)) none _) _) _) _ _ _ | show wpAny _ _ (exec (Stmt.If _ [Stmt.Assign [Expr.Tuple _ _ _] _ _] _ _) _) _ _ _ | show wpAny _ _ (exec (Stmt.If (Expr.BoolOp _ _ _) [Stmt.Assign [Expr.Name _ _] (Expr.Subscript _ _ _) _] _ _) _) _ _ _)); walk1; (try dsimp only)) | ((fail_if_success (with_reducible first | show wpAny _ _ (exec (Stmt.For _ _ _ _ _) _) _ _ _ | show wpAny _ _ (exec (Stmt.While _ _ _ _) _) _ _ _ | show wpAny _ _ (pyIter _) _ _ _ | show wpAny _ _ (call (Value.ref _) _ _) _ _ _ | show wpAny _ _ (eval (Expr.Subscript _ (Expr.Slice none (some (Expr.BoolOp _ _ _)) none _) _) _) _ _ _ | show wpAny _ _ (exec (Stmt.If _ [Stmt.Assign [Expr.Tuple _ _ _] _ _] _ _) _) _ _ _ | show wpAny _ _ (exec (Stmt.If (Expr.BoolOp _ _ _) [Stmt.Assign [Expr.Name _ _] (Expr.Subscript _ _ _) _] _ _) _) _ _ _)); dsimp only; walk1) | (leave1; (try dsimp only)) | fail "no step"))
  refine seg_execs_cons (seg_For (fun _ => rfl) ?_)
  show wpAny _ (ktrTop (dp + 1) (un + 4) gd (gDef w).qual (gDef w).scope C 35 (gDef w).cdv [] (envX cn cs L a ccd cl :: outer)) _ _ _ _
  (repeat' (first | (k_unfold; (try dsimp only)) | ((fail_if_success (with_reducible first | show wpAny _ _ (exec (Stmt.For _ _ _ _ _) _) _ _ _ | show wpAny _ _ (exec (Stmt.While _ _ _ _) _) _ _ _ | show wpAny _ _ (pyIter _) _ _ _ | show wpAny _ _ (call (Value.ref _) _ _) _ _ _ | show wpAny _ _ (eval (Expr.Subscript _ (Expr.Slice none (some (Expr.BoolOp _ _ _)) none _) _) _) _ _ _ | show wpAny _ _ (exec (Stmt.If _ [Stmt.Assign [Expr.Tuple _ _ _] _ _] _ _) _) _ _ _ | show wpAny _ _ (exec (Stmt.If (Expr.BoolOp _ _ _) [Stmt.Assign [Expr.Name _ _] (Expr.Subscript _ _ _) _] _ _) _) _ _ _)); walk1; (try dsimp only)) | ((fail_if_success (with_reducible first | show wpAny _ _ (exec (Stmt.For _ _ _ _ _) _) _ _ _ | show wpAny _ _ (exec (Stmt.While _ _ _ _) _) _ _ _ | show wpAny _ _ (pyIter _) _ _ _ | show wpAny _ _ (call (Value.ref _) _ _) _ _ _ | show wpAny _ _ (eval (Expr.Subscript _ (Expr.Slice none (some (Expr.BoolOp _ _ _)) none _) _) _) _ _ _ | show wpAny _ _ (exec (Stmt.If _ [Stmt.Assign [Expr.Tuple _ _ _] _ _] _ _) _) _ _ _ | show wpAny _ _ (exec (Stmt.If (Expr.BoolOp _ _ _) [Stmt.Assign [Expr.Name _ _] (Expr.Subscript _ _ _) _] _ _) _) _ _ _)); dsimp only; walk1) | (leave1; (try dsimp only)) | fail "no step"))
  rename Fr _ _ _ _ => F3
  rename News _ _ _ _ => N3
  refine wpAny_pyIter_list (N3.isList ha) ?_
  intro p
  refine go _ _ _ _ _ (fr_eq (F3.push _) fun y => ?_) (fun q hq => ⟨Heap.get?_push_of_some _ (N3 q hq).1, (N3 q hq).2⟩) ⟨_, Heap.get?_push_size _ rfl, rfl, rfl⟩ F3.ns.lt (fun q hq => Heap.lt_size (N3 q hq).1) rfl rfl ⟨_, fun e => rfl⟩
  (try dsimp only [gm])
  split
  · rename_i e; subst e; rfl
  · rfl
/-- a raise leaves the generator -/
theorem seg_raised {w : World} {dp un : Nat} {gd : Option (List Code)} {cn : Str} {cs : Scope} {L a : Addr} {ccd : Value} {cl : List (Str × Addr)} {outer : List Env}
    {R : GenEnd} {Y : Protocol} {n : Nat} {C It : Addr} {s₀ s : Shared} {kF : Result → Sem Fin} {p : Pos} {e : Value}
    (hke : ∃ K : Flow → Sem Fin, ∀ e, kF (.error e) = Sem.wrap K (fun e => (leaving (gEnv w C) e).wrap (fun _ => .raise e) .raise id id) id id ((do
        if (← field e 1) == Value.none then unsupported "frame.own-activation:exception-without-traceback"
        setFlight e (gEnv w C).frame : Sem Unit) >>= fun _ => .raise e))
    (h : wpAny (model Challenge.rw_ph0059_01.row.prog w) (ktrTop (dp + 1) (un + 4) gd (gDef w).qual (gDef w).scope C 35 (gDef w).cdv [] (envX cn cs L a ccd cl :: outer)) (leaving (gEnv w C) e) (fun _ s' => R n s₀ (.error e) s') (fun _ _ => False) s) :
    Seg (model Challenge.rw_ph0059_01.row.prog w) (ktrTop dp un gd cn cs L a ccd cl outer).in1 R Y n s₀ (gFor w C It) ((do noteFrame e (gEnv w C); theTreesLotGoes e : Sem Unit).wrap (fun _ => .raise e) .raise id id) (fs1 w C kF p) s := by
  refine seg_wrap ?_
  show wpAny _ (ktrTop (dp + 1) (un + 4) gd (gDef w).qual (gDef w).scope C 35 (gDef w).cdv [] (envX cn cs L a ccd cl :: outer)) _ _ _ _
  refine wpAny_bind (wpAny_mono (wpAny_leaving_again (A'' := ktrTop (dp + 1) (un + 4) gd (gDef w).qual (gDef w).scope C 35 (gDef w).cdv [] (envX cn cs L a ccd cl :: outer)) (what := "frame.own-activation:exception-without-traceback") (E₂ := fun _ _ => False) (E₃ := fun _ _ => False) (SameStack.refl _) h) (fun _ s₁ h₁ => wpAny_theTreesLotGoes ?_) (fun _ _ z => z.elim))
  refine seg_leaf (.error e) ?_
  obtain ⟨K, hke⟩ := hke
  rw [hke, Sem.bind_eq_wrap', Sem.wrap_wrap]
  refine seg_wrap ?_
  show wpAny _ (ktrTop (dp + 1) (un + 4) gd (gDef w).qual (gDef w).scope C 35 (gDef w).cdv [] (envX cn cs L a ccd cl :: outer)) _ _ _ _
  refine wpAny_mono h₁ (fun _ s₂ h₂ => ?_) (fun _ _ z => z.elim)
  show Seg _ _ _ _ _ _ _ ((leaving (gEnv w C) e).wrap (fun _ => .raise e) .raise id id) [] _
  refine seg_wrap ?_
  show wpAny _ (ktrTop (dp + 1) (un + 4) gd (gDef w).qual (gDef w).scope C 35 (gDef w).cdv [] (envX cn cs L a ccd cl :: outer)) _ _ _ _
  exact wpAny_mono h₂ (fun _ s₃ h₃ => seg_end (.error e) h₃) (fun _ _ z => z.elim)
/-- the first resume of a row that a nought opens -/
theorem seg_bad {w : World} {dp un : Nat} {gd : Option (List Code)} {cn : Str} {cs : Scope} {L a : Addr} {ccd : Value} {cl : List (Str × Addr)} {outer : List Env} {mean : ExcName → Option Value} {mg mb : Str → Option Value} {h₀ : Heap}
    {R : GenEnd} {Y : Protocol} {n : Nat} {C : Addr} {s₀ s : Shared} {aa : Addr} {vs : List Value} {e : Nat} {xs : List Int} {news : List (Addr × Obj)}
    (hX : (hd.heap_39 w.params).In h₀) (hT : Top hd.view_39 (looseW hd.view_39 []) mean mg mb h₀) 
    (hF : Fr h₀ C s.heap (fun y => List.lookup y [(Str.ofString "grouping", .ref aa)])) (hN : News h₀ C s.heap news) (ha : (aa, listOf vs.toArray e) ∈ news) (hi : IntsAre vs xs) (hx : xs[0]? = some 0)
    (err : ∀ ex h h' tk' t m, Heap.MadeExcOf h h' ex (.type "ValueError") [.str (Str.ofString "invalid grouping") t] → Fr h₀ C h m → News h₀ C h news →
      wpAny (model Challenge.rw_ph0059_01.row.prog w) (ktrTop (dp + 1) (un + 4) gd (gDef w).qual (gDef w).scope C 35 (gDef w).cdv [] (envX cn cs L a ccd cl :: outer)) (leaving (gEnv w C) (.ref ex)) (fun _ s' => R n s₀ (.error (.ref ex)) s') (fun _ _ => False) { s with heap := h', toks := tk' }) :
    Seg (model Challenge.rw_ph0059_01.row.prog w) (ktrTop dp un gd cn cs L a ccd cl outer).in1 R Y n s₀ (gFun w C) ((model Challenge.rw_ph0059_01.row.prog w).den (gFun w C)) [] s := by
  refine seg_first hX hT hF hN ha hi fun It h' tk' kF p F' N' hit hCI hlt _ _ hke => ?_
  k_fill
  have hl : h'.IsList aa vs.toArray := N'.isList ha
  obtain ⟨t, hv⟩ : ∃ t, vs[0]? = some (Value.int 0 t) := by
    rcases ints_get? hi 0 with ⟨v, t', h1, h2⟩ | ⟨h1, _⟩
    · rw [hx] at h1; cases h1; exact ⟨t', h2⟩
    · rw [hx] at h1; cases h1
  have hI0 : h₀.get? It = none := Heap.get?_none_of_le (Nat.le_trans F'.above (Nat.le_of_lt hCI))
  have hIC : It ≠ C := Nat.ne_of_gt hCI
  refine seg_for (fun v => rfl) ?_
  show wpAny _ (ktrTop (dp + 1) (un + 4) gd (gDef w).qual (gDef w).scope C 35 (gDef w).cdv [] (envX cn cs L a ccd cl :: outer)) _ _ _ _
  refine wpAny_pyNext_list_item hit hl (by simpa using hv) fun h2 hit' hs => ?_
  have F2 := sameBut_fr F' hs hIC.symm hI0
  have N2 := sameBut_news N' hs (fun p hp => Nat.ne_of_lt (hlt p hp))
  clear hF hN F' N' hit hl hs hit' hlt
  show wpAny _ _ _ _ _ _
  w_on
  (try dsimp only [gTg, gDef])
  unfold gm at F2
  k_fold
  (repeat' (first | (k_unfold; (try dsimp only)) | ((fail_if_success (with_reducible first | show wpAny _ _ (exec (Stmt.For _ _ _ _ _) _) _ _ _ | show wpAny _ _ (exec (Stmt.While _ _ _ _) _) _ _ _ | show wpAny _ _ (pyIter _) _ _ _ | show wpAny _ _ (call (Value.ref _) _ _) _ _ _ | show wpAny _ _ (eval (Expr.Subscript _ (Expr.Slice none (some (Expr.BoolOp _ _ _)) none _) _) _) _ _ _ | show wpAny _ _ (exec (Stmt.If _ [Stmt.Assign [Expr.Tuple _ _ _] _ _] _ _) _) _ _ _ | show wpAny _ _ (exec (Stmt.If (Expr.BoolOp _ _ _) [Stmt.Assign [Expr.Name _ _] (Expr.Subscript _ _ _) _] _ _) _) _ _ _)); walk1; (try dsimp only)) | ((fail_if_success (with_reducible first | show wpAny _ _ (exec (Stmt.For _ _ _ _ _) _) _ _ _ | show wpAny _ _ (exec (Stmt.While _ _ _ _) _) _ _ _ | show wpAny _ _ (pyIter _) _ _ _ | show wpAny _ _ (call (Value.ref _) _ _) _ _ _ | show wpAny _ _ (eval (Expr.Subscript _ (Expr.Slice none (some (Expr.BoolOp _ _ _)) none _) _) _) _ _ _ | show wpAny _ _ (exec (Stmt.If _ [Stmt.Assign [Expr.Tuple _ _ _] _ _] _ _) _) _ _ _ | show wpAny _ _ (exec (Stmt.If (Expr.BoolOp _ _ _) [Stmt.Assign [Expr.Name _ _] (Expr.Subscript _ _ _) _] _ _) _) _ _ _)); dsimp only; walk1) | (leave1; (try dsimp only)) | fail "no step"))
  refine seg_st (st := _) (rest := _) ?_
  show wpAny _ (ktrTop (dp + 1) (un + 4) gd (gDef w).qual (gDef w).scope C 35 (gDef w).cdv [] (envX cn cs L a ccd cl :: outer)) _ _ _ _
  (repeat' (first | (k_unfold; (try dsimp only)) | ((fail_if_success (with_reducible first | show wpAny _ _ (exec (Stmt.For _ _ _ _ _) _) _ _ _ | show wpAny _ _ (exec (Stmt.While _ _ _ _) _) _ _ _ | show wpAny _ _ (pyIter _) _ _ _ | show wpAny _ _ (call (Value.ref _) _ _) _ _ _ | show wpAny _ _ (eval (Expr.Subscript _ (Expr.Slice none (some (Expr.BoolOp _ _ _)) none _) _) _) _ _ _ | show wpAny _ _ (exec (Stmt.If _ [Stmt.Assign [Expr.Tuple _ _ _] _ _] _ _) _) _ _ _ | show wpAny _ _ (exec (Stmt.If (Expr.BoolOp _ _ _) [Stmt.Assign [Expr.Name _ _] (Expr.Subscript _ _ _) _] _ _) _) _ _ _)); walk1; (try dsimp only)) | ((fail_if_success (with_reducible first | show wpAny _ _ (exec (Stmt.For _ _ _ _ _) _) _ _ _ | show wpAny _ _ (exec (Stmt.While _ _ _ _) _) _ _ _ | show wpAny _ _ (pyIter _) _ _ _ | show wpAny _ _ (call (Value.ref _) _ _) _ _ _ | show wpAny _ _ (eval (Expr.Subscript _ (Expr.Slice none (some (Expr.BoolOp _ _ _)) none _) _) _) _ _ _ | show wpAny _ _ (exec (Stmt.If _ [Stmt.Assign [Expr.Tuple _ _ _] _ _] _ _) _) _ _ _ | show wpAny _ _ (exec (Stmt.If (Expr.BoolOp _ _ _) [Stmt.Assign [Expr.Name _ _] (Expr.Subscript _ _ _) _] _ _) _) _ _ _)); dsimp only; walk1) | (leave1; (try dsimp only)) | fail "no step"))
  all_goals (try dsimp only)
  refine seg_execs_cons (seg_if ?_)
  show wpAny _ (ktrTop (dp + 1) (un + 4) gd (gDef w).qual (gDef w).scope C 35 (gDef w).cdv [] (envX cn cs L a ccd cl :: outer)) _ _ _ _
  (repeat' (first | (k_unfold; (try dsimp only)) | ((fail_if_success (with_reducible first | show wpAny _ _ (exec (Stmt.For _ _ _ _ _) _) _ _ _ | show wpAny _ _ (exec (Stmt.While _ _ _ _) _) _ _ _ | show wpAny _ _ (pyIter _) _ _ _ | show wpAny _ _ (call (Value.ref _) _ _) _ _ _ | show wpAny _ _ (eval (Expr.Subscript _ (Expr.Slice none (some (Expr.BoolOp _ _ _)) none _) _) _) _ _ _ | show wpAny _ _ (exec (Stmt.If _ [Stmt.Assign [Expr.Tuple _ _ _] _ _] _ _) _) _ _ _ | show wpAny _ _ (exec (Stmt.If (Expr.BoolOp _ _ _) [Stmt.Assign [Expr.Name _ _] (Expr.Subscript _ _ _) _] _ _) _) _ _ _)); walk1; (try dsimp only)) | ((fail_if_success (with_reducible first | show wpAny _ _ (exec (Stmt.For _ _ _ _ _) _) _ _ _ | show wpAny _ _ (exec (Stmt.While _ _ _ _) _) _ _ _ | show wpAny _ _ (pyIter _) _ _ _ | show wpAny _ _ (call (Value.ref _) _ _) _ _ _ | show wpAny _ _ (eval (Expr.Subscript _ (Expr.Slice none (some (Expr.BoolOp _ _ _)) none _) _) _) _ _ _ | show wpAny _ _ (exec (Stmt.If _ [Stmt.Assign [Expr.Tuple _ _ _] _ _] _ _) _) _ _ _ | show wpAny _ _ (exec (Stmt.If (Expr.BoolOp _ _ _) [Stmt.Assign [Expr.Name _ _] (Expr.Subscript _ _ _) _] _ _) _) _ _ _)); dsimp only; walk1) | (leave1; (try dsimp only)) | fail "no step"))
  all_goals (try dsimp only)
  refine seg_execs_cons (seg_if ?_)
  show wpAny _ (ktrTop (dp + 1) (un + 4) gd (gDef w).qual (gDef w).scope C 35 (gDef w).cdv [] (envX cn cs L a ccd cl :: outer)) _ _ _ _
  (repeat' (first | (k_unfold; (try dsimp only)) | ((fail_if_success (with_reducible first | show wpAny _ _ (exec (Stmt.For _ _ _ _ _) _) _ _ _ | show wpAny _ _ (exec (Stmt.While _ _ _ _) _) _ _ _ | show wpAny _ _ (pyIter _) _ _ _ | show wpAny _ _ (call (Value.ref _) _ _) _ _ _ | show wpAny _ _ (eval (Expr.Subscript _ (Expr.Slice none (some (Expr.BoolOp _ _ _)) none _) _) _) _ _ _ | show wpAny _ _ (exec (Stmt.If _ [Stmt.Assign [Expr.Tuple _ _ _] _ _] _ _) _) _ _ _ | show wpAny _ _ (exec (Stmt.If (Expr.BoolOp _ _ _) [Stmt.Assign [Expr.Name _ _] (Expr.Subscript _ _ _) _] _ _) _) _ _ _)); walk1; (try dsimp only)) | ((fail_if_success (with_reducible first | show wpAny _ _ (exec (Stmt.For _ _ _ _ _) _) _ _ _ | show wpAny _ _ (exec (Stmt.While _ _ _ _) _) _ _ _ | show wpAny _ _ (pyIter _) _ _ _ | show wpAny _ _ (call (Value.ref _) _ _) _ _ _ | show wpAny _ _ (eval (Expr.Subscript _ (Expr.Slice none (some (Expr.BoolOp _ _ _)) none _) _) _) _ _ _ | show wpAny _ _ (exec (Stmt.If _ [Stmt.Assign [Expr.Tuple _ _ _] _ _] _ _) _) _ _ _ | show wpAny _ _ (exec (Stmt.If (Expr.BoolOp _ _ _) [Stmt.Assign [Expr.Name _ _] (Expr.Subscript _ _ _) _] _ _) _) _ _ _)); dsimp only; walk1) | (leave1; (try dsimp only)) | fail "no step"))
  all_goals (try dsimp only)
  refine seg_st (st := _) (rest := _) ?_
  show wpAny _ (ktrTop (dp + 1) (un + 4) gd (gDef w).qual (gDef w).scope C 35 (gDef w).cdv [] (envX cn cs L a ccd cl :: outer)) _ _ _ _
  with_unfolding_all refine Raise_madeB PySem.F.excCall_ValueError PySem.F.excRaise_ValueError rfl ?_
  (repeat' (first | (k_unfold; (try dsimp only)) | ((fail_if_success (with_reducible first | show wpAny _ _ (exec (Stmt.For _ _ _ _ _) _) _ _ _ | show wpAny _ _ (exec (Stmt.While _ _ _ _) _) _ _ _ | show wpAny _ _ (pyIter _) _ _ _ | show wpAny _ _ (call (Value.ref _) _ _) _ _ _ | show wpAny _ _ (eval (Expr.Subscript _ (Expr.Slice none (some (Expr.BoolOp _ _ _)) none _) _) _) _ _ _ | show wpAny _ _ (exec (Stmt.If _ [Stmt.Assign [Expr.Tuple _ _ _] _ _] _ _) _) _ _ _ | show wpAny _ _ (exec (Stmt.If (Expr.BoolOp _ _ _) [Stmt.Assign [Expr.Name _ _] (Expr.Subscript _ _ _) _] _ _) _) _ _ _)); walk1; (try dsimp only)) | ((fail_if_success (with_reducible first | show wpAny _ _ (exec (Stmt.For _ _ _ _ _) _) _ _ _ | show wpAny _ _ (exec (Stmt.While _ _ _ _) _) _ _ _ | show wpAny _ _ (pyIter _) _ _ _ | show wpAny _ _ (call (Value.ref _) _ _) _ _ _ | show wpAny _ _ (eval (Expr.Subscript _ (Expr.Slice none (some (Expr.BoolOp _ _ _)) none _) _) _) _ _ _ | show wpAny _ _ (exec (Stmt.If _ [Stmt.Assign [Expr.Tuple _ _ _] _ _] _ _) _) _ _ _ | show wpAny _ _ (exec (Stmt.If (Expr.BoolOp _ _ _) [Stmt.Assign [Expr.Name _ _] (Expr.Subscript _ _ _) _] _ _) _) _ _ _)); dsimp only; walk1) | (leave1; (try dsimp only)) | fail "no step"))
  rename Fr _ _ _ _ => F3
  rename News _ _ _ _ => N3
  rename Heap.MadeExc _ _ _ _ _ => hm
  exact seg_raised hke (err _ _ _ _ _ _ (Heap.MadeExc.of hm) F3 N3)
end Mine
end

section
namespace Mine
/-- all objects of h but those at ex and those of h₀ -/
noncomputable def restOf (h₀ h : Heap) (ex : List Addr) : List (Addr × Obj) := (List.range h.objs.size).filterMap fun b => if b ∈ ex ∨ (h₀.get? b).isSome = true then none else (h.get? b).map fun o => (b, o)
theorem mem_restOf {h₀ h : Heap} {ex : List Addr} {b : Addr} {o : Obj} : (b, o) ∈ restOf h₀ h ex ↔ h.get? b = some o ∧ b ∉ ex ∧ h₀.get? b = none := by
  unfold restOf
  rw [List.mem_filterMap]
  constructor
  · rintro ⟨b', _, e⟩
    split at e
    · cases e
    · rename_i hn
      obtain ⟨o', h1, h2⟩ := Option.map_eq_some_iff.mp e
      cases h2
      refine ⟨h1, fun z => hn (.inl z), ?_⟩
      cases q : h₀.get? b with
      | none => rfl
      | some x => exact absurd (.inr (by rw [q]; rfl)) hn
  · rintro ⟨h1, h2, h3⟩
    refine ⟨b, List.mem_range.mpr (Heap.lt_size h1), ?_⟩
    rw [if_neg (fun z => z.elim h2 (fun z => by rw [h3] at z; cases z)), h1]
    rfl
theorem restOf_news {h₀ h : Heap} {C : Addr} {ex : List Addr} (hC : C ∈ ex) : News h₀ C h (restOf h₀ h ex) := fun p hp => by
  obtain ⟨h1, h2, h3⟩ := mem_restOf.mp hp
  exact ⟨h1, fun q => h2 (q ▸ hC), h3⟩
theorem restOf_kept {h₀ h h' : Heap} {C It G : Addr} {ex : List Addr} (hex : ∀ x ∈ ex, x = C ∨ x = It) (hI : G < It) (K : ∀ b o, h₀.get? b = some o → h.get? b = some o) (K' : ∀ b o, h₀.get? b = some o → h'.get? b = some o) (N : News h₀ C h' (restOf h₀ h ex)) : Kept C G h h' := fun b o hb hC e => by
  cases q : h₀.get? b with
  | none =>
    refine (N (b, o) (mem_restOf.mpr ⟨e, fun z => ?_, q⟩)).1
    rcases hex b z with r | r
    · exact hC r
    · have : b < It := Nat.lt_of_le_of_lt hb hI
      rw [r] at this
      exact Nat.lt_irrefl _ this
  | some x =>
    have := K b x q
    rw [this] at e
    cases e
    exact K' b _ q
noncomputable def gR (q : Nat → GP) (xs : List Int) (C G : Addr) : GenEnd := fun n s₀ r s₁ => r = .ok (.ret .none) ∧ rd xs (q n) = none ∧ ∃ h' tk', s₁ = { s₀ with heap := h', toks := tk' } ∧ Kept C G s₀.heap h'
/-- the state s'' is as the generator wants it -/
noncomputable def Fit (h₀ : Heap) (fp : List (Addr × Obj)) (s : Shared) : Prop := (∀ p ∈ fp, s.heap.get? p.1 = some p.2) ∧ ∀ b o, h₀.get? b = some o → s.heap.get? b = some o
noncomputable def gY (h₀ : Heap) (q : Nat → GP) (xs : List Int) (C G aa : Addr) (lst : Obj) : Protocol := fun n s₀ v s' kap => ∃ u nx It oC oI t h' tk', rd xs (q (n + 1)) = some (u, nx) ∧ v = .int u t ∧ s' = { s₀ with heap := h', toks := tk' } ∧ Kept C G s₀.heap h' ∧ G < It ∧
  Fit h₀ [(C, oC), (It, oI), (aa, lst)] s' ∧ (n ≠ 0 → ∀ s'', Fit h₀ [(C, oC), (It, oI), (aa, lst)] s'' → kap (.send .none) s'')
structure GCtx where
  w : World
  dp : Nat
  un : Nat
  gd : Option (List Code)
  cn : Str
  cs : Scope
  L : Addr
  a : Addr
  ccd : Value
  cl : List (Str × Addr)
  outer : List Env
  mean : ExcName → Option Value
  mg : Str → Option Value
  mb : Str → Option Value
  h₀ : Heap
  q : Nat → GP
  N : Nat
  xs : List Int
  vs : List Value
  e : Nat
  C : Addr
  G : Addr
  aa : Addr
  hX : (hd.heap_39 w.params).In h₀
  hT : Top hd.view_39 (looseW hd.view_39 []) mean mg mb h₀
  hi : IntsAre vs xs
  hq : ∀ n u nx, n + 1 ≤ N → rd xs (q (n + 1)) = some (u, nx) → q n = nx
  hs : h₀.objs.size ≤ C
  hC : C ≤ G
  ha : aa ≠ C
  haG : aa ≤ G
  ha0 : h₀.get? aa = none
namespace GCtx
variable (c : GCtx)
noncomputable abbrev lst : Obj := listOf c.vs.toArray c.e
noncomputable abbrev top : Around := ktrTop c.dp c.un c.gd c.cn c.cs c.L c.a c.ccd c.cl c.outer
noncomputable abbrev R : GenEnd := gR c.q c.xs c.C c.G
noncomputable abbrev Y : Protocol := gY c.h₀ c.q c.xs c.C c.G c.aa c.lst
noncomputable abbrev M : Model := model Challenge.rw_ph0059_01.row.prog c.w
noncomputable def KF (kF : Result → Sem Fin) : Prop := ∀ n s₀ s', c.R n s₀ (.ok (.ret .none)) s' → Seg c.M c.top.in1 c.R c.Y n s₀ (gFun c.w c.C) (kF (.ok (.ret .none))) [] s' ∧ Seg c.M c.top.in1 c.R c.Y n s₀ (gFun c.w c.C) (kF (.ok .next)) [] s'
/-- the tree behind a yield of an item -/
noncomputable abbrev tAt (It : Addr) : Sem Fin := (execs ((gIn c.w).drop 3) (gEnv c.w c.C)).wrap (fun f => match f with
            | .next | .cont => .pure (.again (gFor c.w c.C It))
            | .brk => .pure (.done .next)
            | .ret v => .pure (.done (.ret v))) (fun e => (do noteFrame e (gEnv c.w c.C); theTreesLotGoes e : Sem Unit).wrap (fun _ => .raise e) .raise id id) id id
noncomputable def All (n : Nat) : Prop := (∀ It i v l t oC oI kF p s, c.KF kF → c.q n = .at i v → (∀ h : Heap, h.get? c.C = some oC → h.Ns c.C (gm c.aa l (some (.int v t)))) → (∀ h : Heap, h.get? It = some oI → h.IsListIter It c.aa i) → c.G < It → Fit c.h₀ [(c.C, oC), (It, oI), (c.aa, c.lst)] s →
      Seg c.M c.top.in1 c.R c.Y n s (gFor c.w c.C It) (c.tAt It) (fs1 c.w c.C kF p) s) ∧
   (∀ It v t iv oC oI kF kF' p p' s, c.q n = .rep v → (∀ h : Heap, h.get? c.C = some oC → h.Ns c.C (gm c.aa (.int v t) iv)) → c.G < It → Fit c.h₀ [(c.C, oC), (It, oI), (c.aa, c.lst)] s →
      Seg c.M c.top.in1 c.R c.Y n s (gWhl c.w c.C) (.pure (.again (gWhl c.w c.C))) (.ret kF' none false [] (gFor c.w c.C It) p' [] :: fs1 c.w c.C kF p) s)
end GCtx
theorem ns_of {h₀ h : Heap} {C : Addr} {m : Str → Option Value} (F : Fr h₀ C h m) : ∃ o, h.get? C = some o ∧ ∀ h' : Heap, h'.get? C = some o → h'.Ns C m := by
  obtain ⟨o, es, ep, h1, h2, h3, h4⟩ := F.ns
  exact ⟨o, h1, fun h' e => ⟨o, es, ep, e, h2, h3, h4⟩⟩
theorem iter_of {h : Heap} {It aa : Addr} {i : Nat} (F : h.IsListIter It aa i) : ∃ o, h.get? It = some o ∧ ∀ h' : Heap, h'.get? It = some o → h'.IsListIter It aa i := by
  obtain ⟨o, h1, h2⟩ := F
  exact ⟨o, h1, fun h' e => ⟨o, e, h2⟩⟩
/-- a read, in the small words of GCtx -/
theorem seg_rd (c : GCtx) {n : Nat} {It : Addr} {i : Nat} {l : Option Int} {t : Tok} {iv : Option Value} {s₀ s : Shared} {news : List (Addr × Obj)} {kF : Result → Sem Fin} {p : Pos} (hn : n + 1 ≤ c.N) (ih : n ≠ 0 → c.All n) (hk : c.KF kF) (hrd : rd c.xs (c.q (n + 1)) = rdAt c.xs i l)
    (hs : ∃ h' tk', s = { s₀ with heap := h', toks := tk' }) (hF : Fr c.h₀ c.C s.heap (gm c.aa (lv l t) iv)) (hN : News c.h₀ c.C s.heap news) (ha : (c.aa, c.lst) ∈ news) (hit : s.heap.IsListIter It c.aa i) (hI : c.G < It) (hIn : ∀ p ∈ news, p.1 ≠ It) (hbad : ¬ (c.xs[i]? = some 0 ∧ l = none))
    (hkept : ∀ h' : Heap, News c.h₀ c.C h' news → (∀ b o, c.h₀.get? b = some o → h'.get? b = some o) → Kept c.C c.G s₀.heap h') :
    Seg c.M c.top.in1 c.R c.Y (n + 1) s₀ (gFor c.w c.C It) (c.M.den (gFor c.w c.C It)) (fs1 c.w c.C kF p) s := by
  obtain ⟨hh, tk, rfl⟩ := hs
  have hI0 : c.h₀.get? It = none := Heap.get?_none_of_le (Nat.le_trans c.hs (Nat.le_trans c.hC (Nat.le_of_lt hI)))
  have hIC : It ≠ c.C := fun q => by have := c.hC; rw [q] at hI; exact absurd (Nat.lt_of_lt_of_le hI this) (Nat.lt_irrefl _)
  refine seg_read (iv := iv) (t := t) (l := l) c.hX c.hT hF hN ha c.hi hit hIn hIC hI0 (fun h' tk' hr N' K' => ?_) (fun s' hr => (hk _ _ _ hr).1) (fun s' hr => (hk _ _ _ hr).2) hbad (fun v t' h' tk' kap hr F' N' I' K' => ?_) (fun u h' tk' kF' p' kap iv' hr F' N' I' K' => ?_)
  · exact ⟨rfl, hrd.trans hr, h', tk', rfl, hkept h' N' K'⟩
  · obtain ⟨oC, hC1, hC2⟩ := ns_of F'
    obtain ⟨oI, hI1, hI2⟩ := iter_of I'
    refine ⟨v, _, It, oC, oI, t', h', tk', hrd.trans hr, rfl, rfl, hkept h' N' F'.keep, hI, ⟨?_, F'.keep⟩, fun hn0 s'' ft => ?_⟩
    · simp only [List.mem_cons, List.not_mem_nil, or_false]
      rintro p (rfl | rfl | rfl)
      · exact hC1
      · exact hI1
      · exact (N' _ ha).1
    · exact K' s'' ((ih hn0).1 It (i + 1) v _ _ oC oI kF p s'' hk (c.hq n _ _ hn (hrd.trans hr)) hC2 hI2 hI ft)
  · obtain ⟨oC, hC1, hC2⟩ := ns_of F'
    obtain ⟨oI, hI1, hI2⟩ := iter_of I'
    refine ⟨u, _, It, oC, oI, t, h', tk', hrd.trans hr, rfl, rfl, hkept h' N' F'.keep, hI, ⟨?_, F'.keep⟩, fun hn0 s'' ft => ?_⟩
    · simp only [List.mem_cons, List.not_mem_nil, or_false]
      rintro p (rfl | rfl | rfl)
      · exact hC1
      · exact hI1
      · exact (N' _ ha).1
    · exact K' s'' ((ih hn0).2 It u t iv' oC oI kF kF' p p' s'' (c.hq n _ _ hn (hrd.trans hr)) hC2 hI ft)
theorem seg_all (c : GCtx) : ∀ n, n ≠ 0 → n ≤ c.N → c.All n := by
  intro n
  induction n with
  | zero => intro h; exact absurd rfl h
  | succ n ih =>
    intro _ hn
    have ih' : n ≠ 0 → c.All n := fun h => ih h (Nat.le_of_succ_le hn)
    refine ⟨fun It i v l t oC oI kF p s hk hq hC hI hG ft => ?_, fun It v t iv oC oI kF kF' p p' s hq hC hG ft => ?_⟩
    · have hC1 := ft.1 _ (.head _)
      have hI1 := ft.1 _ (.tail _ (.head _))
      have F : Fr c.h₀ c.C s.heap (gm c.aa l (some (.int v t))) := ⟨hC _ hC1, ft.2, c.hs⟩
      have hI0 : c.h₀.get? It = none := Heap.get?_none_of_le (Nat.le_trans c.hs (Nat.le_trans c.hC (Nat.le_of_lt hG)))
      have hIC : It ≠ c.C := fun q => by have := c.hC; rw [q] at hG; exact absurd (Nat.lt_of_lt_of_le hG this) (Nat.lt_irrefl _)
      have N : News c.h₀ c.C s.heap ((It, oI) :: restOf c.h₀ s.heap [c.C, It]) := fun p hp => by
        rcases List.mem_cons.mp hp with rfl | hp
        · exact ⟨hI1, hIC, hI0⟩
        · exact restOf_news (.head _) p hp
      have K := ft.2
      have kk : ∀ h' : Heap, News c.h₀ c.C h' (restOf c.h₀ s.heap [c.C, It]) → (∀ b o, c.h₀.get? b = some o → h'.get? b = some o) → Kept c.C c.G s.heap h' := fun h' N' K' => restOf_kept (It := It) (by simp) hG K K' N'
      have hm : (c.aa, c.lst) ∈ restOf c.h₀ s.heap [c.C, It] := mem_restOf.mpr ⟨ft.1 _ (.tail _ (.tail _ (.head _))), by
        have h1 := c.ha
        have h2 := c.haG
        intro z
        rcases List.mem_cons.mp z with z | z
        · exact h1 z
        · have z := List.mem_singleton.mp z
          rw [z] at h2
          exact absurd (Nat.lt_of_lt_of_le hG h2) (Nat.lt_irrefl _), c.ha0⟩
      have hne : ∀ p ∈ restOf c.h₀ s.heap [c.C, It], p.1 ≠ It := fun p hp => by
        obtain ⟨_, h2, _⟩ := mem_restOf.mp hp
        exact fun z => h2 (by rw [z]; simp)
      clear hC1 hI1
      generalize restOf c.h₀ s.heap [c.C, It] = news at *
      have hX := c.hX
      have hT := c.hT
      have R1 : ∀ h' tk', Fr c.h₀ c.C h' (gm c.aa (.int v t) (some (.int v t))) → News c.h₀ c.C h' ((It, oI) :: news) → Seg c.M c.top.in1 c.R c.Y (n + 1) s (gFor c.w c.C It) (.pure (.again (gFor c.w c.C It))) (fs1 c.w c.C kF p) { s with heap := h', toks := tk' } := by
        intro h' tk' F' N'
        refine seg_again rfl ?_
        exact seg_rd c (t := t) (l := some v) (iv := some (.int v t)) hn ih' hk (by rw [hq]; rfl) ⟨_, _, rfl⟩ F' (fun p hp => N' p (.tail _ hp)) hm (hI _ (N' _ (.head _)).1) hG hne (fun z => by cases z.2) kk
      exact seg_at' hX hT F N R1
    · have hC1 := ft.1 _ (.head _)
      have hI1 := ft.1 _ (.tail _ (.head _))
      have F : Fr c.h₀ c.C s.heap (gm c.aa (.int v t) iv) := ⟨hC _ hC1, ft.2, c.hs⟩
      have hI0 : c.h₀.get? It = none := Heap.get?_none_of_le (Nat.le_trans c.hs (Nat.le_trans c.hC (Nat.le_of_lt hG)))
      have hIC : It ≠ c.C := fun q => by have := c.hC; rw [q] at hG; exact absurd (Nat.lt_of_lt_of_le hG this) (Nat.lt_irrefl _)
      have N : News c.h₀ c.C s.heap ((It, oI) :: restOf c.h₀ s.heap [c.C, It]) := fun p hp => by
        rcases List.mem_cons.mp hp with rfl | hp
        · exact ⟨hI1, hIC, hI0⟩
        · exact restOf_news (.head _) p hp
      have hm : (c.aa, c.lst) ∈ restOf c.h₀ s.heap [c.C, It] := mem_restOf.mpr ⟨ft.1 _ (.tail _ (.tail _ (.head _))), by
        have h1 := c.ha
        have h2 := c.haG
        intro z
        rcases List.mem_cons.mp z with z | z
        · exact h1 z
        · have z := List.mem_singleton.mp z
          rw [z] at h2
          exact absurd (Nat.lt_of_lt_of_le hG h2) (Nat.lt_irrefl _), c.ha0⟩
      refine seg_rep (It := It) c.hX c.hT F N fun h' tk' kap F' N' hk => ?_
      obtain ⟨oC', hC1', hC2'⟩ := ns_of F'
      have hr : rd c.xs (c.q (n + 1)) = some (v, .rep v) := by rw [hq]; rfl
      refine ⟨v, .rep v, It, oC', oI, t, h', tk', hr, rfl, rfl, restOf_kept (ex := [c.C, It]) (It := It) (by simp) hG ft.2 F'.keep (fun p hp => N' p (.tail _ hp)), hG, ⟨?_, F'.keep⟩, fun hn0 s'' ft' => ?_⟩
      · simp only [List.mem_cons, List.not_mem_nil, or_false]
        rintro p (rfl | rfl | rfl)
        · exact hC1'
        · exact (N' _ (.head _)).1
        · exact (N' _ (.tail _ hm)).1
      · exact hk s'' ((ih' hn0).2 It v t iv oC' oI kF kF' p p' s'' (c.hq n _ _ hn hr) hC2' hG ft')
/-- the first resume -/
theorem seg_new (c : GCtx) {n : Nat} {oC oG : Obj} {s : Shared} (hn : n + 1 ≤ c.N) (hq : c.q (n + 1) = .start) (hb : c.xs[0]? ≠ some 0) (hC : ∀ h : Heap, h.get? c.C = some oC → h.Ns c.C (fun y => List.lookup y [(Str.ofString "grouping", .ref c.aa)])) (hGC : c.C < c.G)
    (ft : Fit c.h₀ [(c.C, oC), (c.G, oG), (c.aa, c.lst)] s) :
    Seg c.M c.top.in1 c.R c.Y (n + 1) s (gFun c.w c.C) (c.M.den (gFun c.w c.C)) [] s := by
  have hC1 := ft.1 _ (.head _)
  have hG1 := ft.1 _ (.tail _ (.head _))
  have ha1 := ft.1 _ (.tail _ (.tail _ (.head _)))
  have F : Fr c.h₀ c.C s.heap (fun y => List.lookup y [(Str.ofString "grouping", .ref c.aa)]) := ⟨hC _ hC1, ft.2, c.hs⟩
  have hm : (c.aa, c.lst) ∈ restOf c.h₀ s.heap [c.C] := mem_restOf.mpr ⟨ha1, by simpa using c.ha, c.ha0⟩
  have hg : (c.G, oG) ∈ restOf c.h₀ s.heap [c.C] := mem_restOf.mpr ⟨hG1, by simpa using Nat.ne_of_gt hGC, Heap.get?_none_of_le (Nat.le_trans c.hs c.hC)⟩
  refine seg_first c.hX c.hT F (restOf_news (.head _)) hm c.hi fun It h' tk' kF p F' N' hit _ hlt k1 k2 _ => ?_
  have hG : c.G < It := hlt _ hg
  refine seg_rd c (l := none) (t := 0) (iv := none) hn (fun h => seg_all c n h (Nat.le_of_succ_le hn)) (fun m s₀ s' hr => ⟨by rw [k1]; exact seg_end _ hr, by rw [k2]; exact seg_end _ hr⟩) (by rw [hq]; rfl) ⟨_, _, rfl⟩ F' N' hm hit hG (fun p hp => Nat.ne_of_lt (hlt p hp)) (fun z => hb z.1) (fun h'' N'' K'' => restOf_kept (ex := [c.C]) (It := It) (by simp) hG ft.2 K'' N'')
/-- the caller's sight of a generator that may be resumed n times -/
noncomputable def Goer (c : GCtx) (n : Nat) (gs : GenState) (fp : List (Addr × Obj)) : Prop := ∀ s, Fit c.h₀ fp s → gs.Goes c.M c.top.in1 c.R c.Y n (.send .none) s
theorem genSet {gens : Array GenState} {g : Nat} {a b : GenState} (h : gens[g]? = some a) : (gens.setIfInBounds g b)[g]? = some b := by
  have := (Array.getElem?_eq_some_iff.mp h).1
  simp [this]
theorem pyNext_genQ {prog : Program} {w : World} {A : Around} {E : Value → Shared → Prop} {s : Shared} {a : Addr} {g n : Nat} {gs : GenState} {P : Nat → Shared → Shared → Prop} {Y : Protocol} {Q : Option Value → Shared → Prop} (hh : A.handled = none)
    (hl : s.heap.NoLimit) (hroom : A.depth < recursionLimit)
    (hg : s.heap.IsGen a g) (hgs : s.gens[g]? = some gs)
    (hgo : gs.Goes (model prog w) A.in1 (fun n s₀ r s₁ => r = .ok (.ret .none) ∧ P n s₀ s₁) Y n (.send .none) (s.setGen g .running))
    (hY : ∀ v s₁ gs', gs'.bare = true → Y (n - 1) (s.setGen g .running) v s₁ (fun r' s'' => match n with
        | 0 => False
        | m + 1 => gs'.Goes (model prog w) A.in1 (fun n s₀ r s₁ => r = .ok (.ret .none) ∧ P n s₀ s₁) Y m r' s'') → Q (some v) (s₁.setGen g gs'))
    (hP : ∀ s₁, P n (s.setGen g .running) s₁ → ∀ h', (∀ b o, s₁.heap.get? b = some o → h'.get? b = some o) → Q none { s₁.setGen g .finished with heap := h' }) :
    wpAny (model prog w) A (pyNext (.ref a)) Q E s := by
  unfold pyNext
  refine wpAny_bind (wpAny_attempt (wpAny_callSpecial?_slot (name := Str.ofString "__next__") hg.typeIs slot_gen_next
    (wpAny_call_entry slot_gen_next hg.typeIs entry_gen_next ?_ (args_gen_next _))))
  show wpAny _ _ (Builtin.Generator.genWake (.ref a) (.send .none)) _ _ s
  unfold Builtin.Generator.genWake
  refine wpAny_bind (wpAny_holding (wpAny_genNumber hg (wpAny_bind (wpAny_genState hgs ?_))))
  cases gs with
  | running => exact hgo.elim
  | finished => exact hgo.elim
  | _ =>
    refine wpAny_bind (wpAny_roomToWake hl hroom ?_)
    show wpAny _ _ (.resume g (.send .none) [] _) _ _ s
    refine wpAny_resumeQ hgs hgo (fun x s₁ hx => ?_) (fun v s₁ gs' hb hv => ?_)
    · obtain ⟨rfl, hp⟩ := hx
      show wpAny _ _ (newExc (.type "StopIteration") [] >>= _) _ _ _
      refine wpAny_bind ?_
      simp only [newExc, newTuple]
      refine wpAny_bind (wpAny_newObj_type ?_ (by size_fits))
      refine wpAny_bind (m := firstArgMember _ _) (wpAny_of_eq (a := Value.none) (by first | rfl | (simp only [firstArgMember]; rfl)) ?_)
      refine wpAny_newObj_type ?_ (by size_fits)
      simp only [raiseNew]
      refine wpAny_bind (wpAny_bind (wpAny_handled ?_))
      rw [show A.in1.handled = none from hh]
      refine wpAny_throw ?_
      refine wpAny_bind (wpAny_isInstance (T := "StopIteration") (b := true) ⟨_, Heap.get?_push_size _ rfl, rfl⟩ isSubtype_stop ?_)
      exact wpAny_pure (hP s₁ hp _ fun b o hb => Heap.get?_push_of_some _ (Heap.get?_push_of_some _ hb))
    · exact wpAny_pure ⟨v, rfl, wpAny_pure (hY v s₁ gs' hb hv)⟩
/-- one resume, as the caller sees it -/
theorem gen_next (c : GCtx) {n g : Nat} {gs : GenState} {fp : List (Addr × Obj)} {Q : Option Value → Shared → Prop} {E : Value → Shared → Prop} {s : Shared}
    (hdp : c.dp < recursionLimit) (hl : s.heap.NoLimit) (hg : s.heap.IsGen c.G g) (hgs : s.gens[g]? = some gs) (hgo : Goer c (n + 1) gs fp) (ft : Fit c.h₀ fp s)
    (hY : ∀ u nx It oC oI t h' tk' gs', rd c.xs (c.q (n + 1)) = some (u, nx) → Kept c.C c.G s.heap h' → c.G < It → gs'.bare = true → Fit c.h₀ [(c.C, oC), (It, oI), (c.aa, c.lst)] { s with heap := h' } → (n ≠ 0 → Goer c n gs' [(c.C, oC), (It, oI), (c.aa, c.lst)]) →
      Q (some (.int u t)) { s with heap := h', toks := tk', gens := (s.gens.setIfInBounds g .running).setIfInBounds g gs' })
    (hP : ∀ h' tk', rd c.xs (c.q (n + 1)) = none → Kept c.C c.G s.heap h' → Q none { s with heap := h', toks := tk', gens := (s.gens.setIfInBounds g .running).setIfInBounds g .finished }) :
    wpAny c.M c.top (pyNext (.ref c.G)) Q E s := by
  refine pyNext_genQ (n := n + 1) (P := fun n s₀ s₁ => rd c.xs (c.q n) = none ∧ ∃ h' tk', s₁ = { s₀ with heap := h', toks := tk' } ∧ Kept c.C c.G s₀.heap h') (Y := c.Y) rfl hl hdp hg hgs (hgo _ ft) (fun v s₁ gs' hb hv => ?_) (fun s₁ hp h' hk => ?_)
  · obtain ⟨u, nx, It, oC, oI, t, h', tk', h1, rfl, rfl, h4, h5, h6, h7⟩ := hv
    exact hY u nx It oC oI t h' tk' gs' h1 h4 h5 hb h6 fun hn s'' fs => h7 hn s'' fs
  · obtain ⟨h1, h2, tk', rfl, h4⟩ := hp
    exact hP h' tk' h1 fun b o hb hC e => hk b o (h4 b o hb hC e)
end Mine
end

section
namespace Mine
theorem gen_call {w : World} {mean : ExcName → Option Value} {mg mb : Str → Option Value} {A : Around} {h₀ : Heap} {L aa : Addr} {m : Str → Option Value} {s : Shared} {news : List (Addr × Obj)} {Q : Value → Shared → Prop} {E : Value → Shared → Prop}
    (hF : Fr h₀ L s.heap m) (hX : (hd.heap_39 w.params).In h₀) (hN : News h₀ L s.heap news) (hT : Top hd.view_39 (looseW hd.view_39 []) mean mg mb h₀) (hroom : A.depth < recursionLimit)
    (ret : ∀ C G oC oG h' tk', L < C → C < G → (∀ p ∈ news, p.1 < C) → Fr h₀ L h' m → News h₀ L h' ((G, oG) :: (C, oC) :: news) → (∀ h : Heap, h.get? C = some oC → h.Ns C (fun y => List.lookup y [(Str.ofString "grouping", .ref aa)])) → (∀ h : Heap, h.get? G = some oG → h.IsGen G s.gens.size) → C = s.heap.objs.size → (∀ b o, s.heap.get? b = some o → h'.get? b = some o) →
      Q (.ref G) { s with heap := h', toks := tk', gens := s.gens.push (.fresh (gFun w C)) }) :
    wpAny (model Challenge.rw_ph0059_01.row.prog w) A (call (.ref 35) [.ref aa]) Q E s := by
  have X := hX.keeps hF.keep
  refine wpAny_call (codeAny_call_generator hroom (X _ _ (gDef w).ho) rfl rfl rfl rfl (codeRec_of X rfl) ?_)
  refine BindsTo.of_eq (binds := [(Str.ofString "grouping", .ref aa)]) rfl _ _ _ _ ?_
  refine wpAny_newFunctionEnv (show ∀ x ∈ (gDef w).scope.names, x.2 ≠ .cell by dsimp only [gDef]; decide) (locs rfl) (fun h₁ ns sb => ?_) rfl
  have hl : h₁.NoLimit := (hT.nolimit.keeps hF.keep).fresh _ sb
  refine ⟨hl, ?_⟩
  have hsz : h₁.objs.size = s.heap.objs.size + 1 := by rw [sb.1, Heap.size_push]
  have keep : ∀ b o, s.heap.get? b = some o → h₁.get? b = some o := fun b o e => sb.extBut b o (Nat.ne_of_lt (Heap.lt_size e)) (Heap.get?_push_of_some _ e)
  obtain ⟨oC, es, ep, hC, hC2⟩ := id ns
  have hLt : L < s.heap.objs.size := hF.ns.lt
  have hn0 : ∀ b, s.heap.objs.size ≤ b → h₀.get? b = none := fun b hb => Heap.get?_none_of_le (Nat.le_trans hF.above (Nat.le_trans (Nat.le_of_lt hLt) hb))
  have hCG : s.heap.objs.size < h₁.objs.size := by rw [hsz]; exact Nat.lt_succ_self _
  have hgo : ∀ (v₁ v₂ : Value) (h : Heap), h.get? h₁.objs.size = some { cls := .type "generator", data := .fields #[.int s.gens.size 0, v₁, v₂] } → h.IsGen h₁.objs.size s.gens.size := fun _ _ h e => ⟨_, _, _, e, rfl, rfl, rfl⟩
  refine ret s.heap.objs.size h₁.objs.size oC { cls := .type "generator", data := .fields #[.int s.gens.size 0, .str (gDef w).name (s.toks + 1), .str (gDef w).qual (s.toks + 1 + 1)] } (h₁.push { cls := .type "generator", data := .fields #[.int s.gens.size 0, .str (gDef w).name (s.toks + 1), .str (gDef w).qual (s.toks + 1 + 1)] }) _ hLt hCG (fun p hp => Heap.lt_size (hN p hp).1) ⟨?_, fun b o e => Heap.get?_push_of_some _ (keep b o (hF.keep b o e)), hF.above⟩ (fun p hp => ?_) (fun h e => ⟨oC, es, ep, e, hC2⟩) (hgo _ _) rfl (fun b o e => Heap.get?_push_of_some _ (keep b o e))
  · obtain ⟨oL, es', ep', hL, hL2⟩ := hF.ns
    exact ⟨oL, es', ep', Heap.get?_push_of_some _ (keep _ _ hL), hL2⟩
  · rcases List.mem_cons.mp hp with rfl | hp
    · exact ⟨Heap.get?_push_size _ rfl, Nat.ne_of_gt (Nat.lt_trans hLt hCG), hn0 _ (Nat.le_of_lt hCG)⟩
    rcases List.mem_cons.mp hp with rfl | hp
    · exact ⟨Heap.get?_push_of_some _ hC, Nat.ne_of_gt hLt, hn0 _ (Nat.le_refl _)⟩
    · exact ⟨Heap.get?_push_of_some _ (keep _ _ (hN p hp).1), (hN p hp).2⟩
end Mine
end

section
namespace Mine
noncomputable def nxt (xs : List Int) (p : GP) : GP := match rd xs p with
  | some (_, x) => x
  | none => p
noncomputable def posAt (xs : List Int) (k : Nat) : GP := @Nat.rec (fun _ => GP) .start (fun _ p => nxt xs p) k
theorem posAt_next (xs : List Int) (N : Nat) : ∀ n u nx, n + 1 ≤ N → rd xs (posAt xs (N - (n + 1))) = some (u, nx) → posAt xs (N - n) = nx := by
  intro n u nx hn h
  have e : N - n = (N - (n + 1)) + 1 := (Nat.succ_pred_eq_of_pos (Nat.sub_pos_of_lt hn)).symm
  rw [e]
  show nxt xs (posAt xs _) = nx
  unfold nxt
  rw [h]
/-- a turn's end, of a for over a generator -/
noncomputable def GenEnd' {σ : Type} (c : GCtx) (L : Addr) (Led : σ → List (Addr × Obj)) (mp : σ → Str → Option Value) (P : Nat → σ → Prop) (tri : List (Addr × Obj)) (j : Nat) (s : Shared) (Q : Flow → Shared → Prop) (f : Flow) (s₂ : Shared) : Prop := match f with
  | .ret v => Q (.ret v) s₂
  | .brk => Q .next s₂
  | _ => ∃ c' h' tk' m' nx, s₂ = { s with heap := h', toks := tk' } ∧ Fr c.h₀ L h' m' ∧ (∀ y, mp c' y = m' y) ∧ News c.h₀ L h' nx ∧ (∀ p ∈ Led c', p ∈ nx) ∧ (∀ p ∈ tri, p ∈ nx) ∧ (∀ p ∈ Led c', p.1 < c.C) ∧ (c.aa, c.lst) ∈ Led c' ∧ P (j + 1) c' ∧ j + 1 < c.N
noncomputable def AllB (g : Array GenState) : Prop := ∀ x ∈ g, x.bare = true
theorem AllB.set {g : Array GenState} (h : AllB g) (i : Nat) {x : GenState} (hx : x.bare = true) : AllB (g.setIfInBounds i x) := by
  intro y hy
  rcases Array.mem_or_eq_of_mem_setIfInBounds hy with r | r
  · exact h y r
  · rw [r]; exact hx
theorem AllB.push {g : Array GenState} (h : AllB g) {x : GenState} (hx : x.bare = true) : AllB (g.push x) := by
  intro y hy
  rcases Array.mem_push.mp hy with r | r
  · exact h y r
  · rw [r]; exact hx
section
variable {E : Value → Shared → Prop} {s : Shared} {x : Str} {body : List Stmt} {Q : Flow → Shared → Prop} {env : Env}
theorem kept_news {h₀ h h' : Heap} {L C G : Addr} {led : List (Addr × Obj)} (N : News h₀ L h led) (hk : Kept C G h h') (hlt : ∀ p ∈ led, p.1 ≤ G ∧ p.1 ≠ C) : News h₀ L h' led := fun p hp => ⟨hk _ _ (hlt p hp).1 (hlt p hp).2 (N p hp).1, (N p hp).2⟩
theorem kept_fr {h₀ h h' : Heap} {L C G : Addr} {m : Str → Option Value} (F : Fr h₀ L h m) (hk : Kept C G h h') (hL : L < C) (hG : C ≤ G) : Fr h₀ L h' m := by
  obtain ⟨oL, es, ep, e, r⟩ := F.ns
  exact ⟨⟨oL, es, ep, hk _ _ (Nat.le_trans (Nat.le_of_lt hL) hG) (Nat.ne_of_lt hL) e, r⟩, fun b o q => by
    have hb : b < L := Nat.lt_of_lt_of_le (Heap.lt_size q) F.above
    exact hk b o (Nat.le_trans (Nat.le_of_lt (Nat.lt_trans hb hL)) hG) (Nat.ne_of_lt (Nat.lt_trans hb hL)) (F.keep b o q), F.above⟩
theorem loop_gen (c : GCtx) {σ : Type} (L : Addr) (Led : σ → List (Addr × Obj)) (mp : σ → Str → Option Value) (P : Nat → σ → Prop) (st₀ : σ) {g : Nat} {oC oG : Obj} {m₀ : Str → Option Value}
    (hq : c.q = fun n => posAt c.xs (c.N - n)) (hN0 : 2 ≤ c.N) (hN63 : c.N < 64) (hdp : c.dp < recursionLimit) (hx0 : c.xs[0]? ≠ some 0) (hCG : c.C < c.G) (hLC : L < c.C)
    (hC : ∀ h : Heap, h.get? c.C = some oC → h.Ns c.C (fun y => List.lookup y [(Str.ofString "grouping", .ref c.aa)])) (hG : ∀ h : Heap, h.get? c.G = some oG → h.IsGen c.G g) (hgs : s.gens[g]? = some (.fresh (gFun c.w c.C)))
    (F : Fr c.h₀ L s.heap m₀) (hm : ∀ y, mp st₀ y = m₀ y) (N : News c.h₀ L s.heap ((c.G, oG) :: (c.C, oC) :: Led st₀)) (hlt : ∀ p ∈ Led st₀, p.1 < c.C) (hla : (c.aa, c.lst) ∈ Led st₀) (hp : P 0 st₀)
    (turn : ∀ (j : Nat) (st : σ) (u : Int) (t : Tok) (h : Heap) (tk : Nat) (gens : Array GenState) (tri : List (Addr × Obj)), P j st → j < c.N → (∃ nx, rd c.xs (posAt c.xs j) = some (u, nx)) → (∀ p ∈ Led st, p.1 < c.C) → (∀ p ∈ tri, c.C ≤ p.1) → (AllB s.gens → AllB gens) → Fr c.h₀ L h (mp st) → News c.h₀ L h (tri ++ Led st) →
      wpAny c.M c.top (storeName env x (.int u t)) (fun _ s₂ => wpAny c.M c.top (execs body env) (GenEnd' c L Led mp P tri j { s with gens := gens } Q) E s₂) E { s with heap := h, gens := gens, toks := tk })
    (done : ∀ (j : Nat) (st : σ) (h : Heap) (tk : Nat) (gens : Array GenState), P j st → j < c.N → rd c.xs (posAt c.xs j) = none → (∀ p ∈ Led st, p.1 < c.C) → (AllB s.gens → AllB gens) → Fr c.h₀ L h (mp st) → News c.h₀ L h (Led st) → Q .next { s with heap := h, gens := gens, toks := tk }) :
    wpAny c.M c.top (pyIter (.ref c.G)) (OwitAt Challenge.rw_ph0059_01.row.prog c.w c.top E env x body Q) E s := by
  refine wpAny_pyIter_gen (hG _ (N _ (.head _)).1) (OwitAt.intro ?_)
  have hl : ∀ {h : Heap} {m : Str → Option Value}, Fr c.h₀ L h m → h.NoLimit := fun F => c.hT.nolimit.keeps F.keep
  have key : ∀ (n j : Nat) (st : σ) (h : Heap) (tk : Nat) (gens : Array GenState) (gs : GenState) (fp tri : List (Addr × Obj)), j + (n + 1) = c.N → P j st → gens[g]? = some gs → (AllB s.gens → AllB gens) → (c.G, oG) ∈ tri → (∀ p ∈ tri, c.C ≤ p.1) → (∀ p ∈ fp, p ∈ tri ++ Led st) → Goer c (n + 1) gs fp → Fr c.h₀ L h (mp st) → News c.h₀ L h (tri ++ Led st) → (∀ p ∈ Led st, p.1 < c.C) → (c.aa, c.lst) ∈ Led st →
      OwitRest Challenge.rw_ph0059_01.row.prog c.w c.top E env x body Q c.G (64 - j) { s with heap := h, gens := gens, toks := tk } := by
    intro n
    induction n with
    | zero =>
      intro j st h tk gens gs fp tri hj hP hgs hgb hGm htri hfp hgo F N hlt hla
      obtain ⟨k, hk64⟩ : ∃ k, 64 - j = k + 1 := ⟨63 - j, st64 (by omega)⟩
      rw [hk64]
      refine OwitRest.succ ?_
      have hqe : c.q (0 + 1) = posAt c.xs j := by rw [hq]; show posAt c.xs (c.N - (0 + 1)) = _; congr 1; omega
      refine gen_next c (n := 0) (g := g) (gs := gs) (fp := fp) hdp (hl F) (hG _ (N _ (List.mem_append_left _ hGm)).1) hgs hgo ⟨fun p hp => (N p (hfp p hp)).1, F.keep⟩ (fun u nx It oC oI t h' tk' gs' hr hk hI hb ft go => ?_) (fun h' tk' hr hk => ?_)
      · rw [hqe] at hr
        have hlt' : ∀ p ∈ Led st, p.1 ≤ c.G ∧ p.1 ≠ c.C := fun p hp => ⟨Nat.le_trans (Nat.le_of_lt (hlt p hp)) c.hC, Nat.ne_of_lt (hlt p hp)⟩
        have F' := kept_fr F hk hLC c.hC
        have N' : News c.h₀ L h' ([] ++ Led st) := kept_news (fun p hp => N p (List.mem_append_right _ hp)) hk hlt'
        refine wpAny_mono (turn j st u t h' tk' _ [] hP (by exact om28 hj) ⟨nx, hr⟩ hlt (by simp) (fun z => ((hgb z).set g (by rfl)).set g hb) F' N') (fun _ s₂ h₂ => wpAny_mono h₂ (fun f s₃ h₃ => ?_) fun _ _ z => z) fun _ _ z => z
        cases f with
        | ret v => exact h₃
        | brk => exact h₃
        | next => obtain ⟨_, _, _, _, _, _, _, _, _, _, _, _, _, _, z⟩ := h₃; omega
        | cont => obtain ⟨_, _, _, _, _, _, _, _, _, _, _, _, _, _, z⟩ := h₃; omega
      · rw [hqe] at hr
        have hlt' : ∀ p ∈ Led st, p.1 ≤ c.G ∧ p.1 ≠ c.C := fun p hp => ⟨Nat.le_trans (Nat.le_of_lt (hlt p hp)) c.hC, Nat.ne_of_lt (hlt p hp)⟩
        exact done j st h' tk' _ hP (by exact om28 hj) hr hlt (fun z => ((hgb z).set g (by rfl)).set g (by rfl)) (kept_fr F hk hLC c.hC) (kept_news (fun p hp => N p (List.mem_append_right _ hp)) hk hlt')
    | succ n ih =>
      intro j st h tk gens gs fp tri hj hP hgs hgb hGm htri hfp hgo F N hlt hla
      obtain ⟨k, hk64⟩ : ∃ k, 64 - j = k + 1 := ⟨63 - j, st64 (by omega)⟩
      rw [hk64]
      refine OwitRest.succ ?_
      have hqe : c.q (n + 1 + 1) = posAt c.xs j := by rw [hq]; show posAt c.xs (c.N - (n + 1 + 1)) = _; congr 1; omega
      refine gen_next c (n := n + 1) (g := g) (gs := gs) (fp := fp) hdp (hl F) (hG _ (N _ (List.mem_append_left _ hGm)).1) hgs hgo ⟨fun p hp => (N p (hfp p hp)).1, F.keep⟩ (fun u nx It oC oI t h' tk' gs' hr hk hI hb ft go => ?_) (fun h' tk' hr hk => ?_)
      · rw [hqe] at hr
        have hlt' : ∀ p ∈ Led st, p.1 ≤ c.G ∧ p.1 ≠ c.C := fun p hp => ⟨Nat.le_trans (Nat.le_of_lt (hlt p hp)) c.hC, Nat.ne_of_lt (hlt p hp)⟩
        have F' := kept_fr F hk hLC c.hC
        have hI0 : c.h₀.get? It = none := Heap.get?_none_of_le (Nat.le_trans c.hs (Nat.le_trans c.hC (Nat.le_of_lt hI)))
        have hC0 : c.h₀.get? c.C = none := Heap.get?_none_of_le c.hs
        have hLI : It ≠ L := Nat.ne_of_gt (Nat.lt_trans hLC (Nat.lt_of_le_of_lt c.hC hI))
        have N' : News c.h₀ L h' ([(c.C, oC), (It, oI), (c.G, oG)] ++ Led st) := fun p hp => by
          rcases List.mem_append.mp hp with hp | hp
          · simp only [List.mem_cons, List.not_mem_nil, or_false] at hp
            rcases hp with rfl | rfl | rfl
            · exact ⟨ft.1 _ (.head _), Nat.ne_of_gt hLC, hC0⟩
            · exact ⟨ft.1 _ (.tail _ (.head _)), hLI, hI0⟩
            · have := N _ (List.mem_append_left _ hGm)
              exact ⟨hk _ _ (Nat.le_refl _) (Nat.ne_of_gt hCG) this.1, this.2⟩
          · exact kept_news (fun p hp => N p (List.mem_append_right _ hp)) hk hlt' p hp
        have htri' : ∀ p ∈ [(c.C, oC), (It, oI), (c.G, oG)], c.C ≤ p.1 := by
          intro p hp
          simp only [List.mem_cons, List.not_mem_nil, or_false] at hp
          rcases hp with rfl | rfl | rfl
          · exact Nat.le_refl _
          · exact Nat.le_trans c.hC (Nat.le_of_lt hI)
          · exact c.hC
        have hgs' : ((gens.setIfInBounds g .running).setIfInBounds g gs')[g]? = some gs' := genSet (genSet hgs)
        refine wpAny_mono (turn j st u t h' tk' _ [(c.C, oC), (It, oI), (c.G, oG)] hP (by exact om29 hj) ⟨nx, hr⟩ hlt htri' (fun z => ((hgb z).set g (by rfl)).set g hb) F' N') (fun _ s₂ h₂ => wpAny_mono h₂ (fun f s₃ h₃ => ?_) fun _ _ z => z) fun _ _ z => z
        have fin : ∀ {s₃}, (∃ c' h' tk' m' nx, s₃ = { s with heap := h', gens := (gens.setIfInBounds g .running).setIfInBounds g gs', toks := tk' } ∧ Fr c.h₀ L h' m' ∧ (∀ y, mp c' y = m' y) ∧ News c.h₀ L h' nx ∧ (∀ p ∈ Led c', p ∈ nx) ∧ (∀ p ∈ [(c.C, oC), (It, oI), (c.G, oG)], p ∈ nx) ∧ (∀ p ∈ Led c', p.1 < c.C) ∧ (c.aa, c.lst) ∈ Led c' ∧ P (j + 1) c' ∧ j + 1 < c.N) → OwitRest Challenge.rw_ph0059_01.row.prog c.w c.top E env x body Q c.G k s₃ := by
          rintro s₃ ⟨c', h4, tk4, m4, nx4, rfl, F4, hm4, N4, hl4, ht4, hlt4, ha4, hP4, hj4⟩
          have := ih (j + 1) c' h4 tk4 _ gs' [(c.C, oC), (It, oI), (c.aa, c.lst)] [(c.C, oC), (It, oI), (c.G, oG)] (by omega) hP4 hgs' (fun z => ((hgb z).set g (by rfl)).set g hb) (by simp) htri' (by
            intro p hp
            simp only [List.mem_cons, List.not_mem_nil, or_false] at hp
            rcases hp with rfl | rfl | rfl
            · exact List.mem_append_left _ (.head _)
            · exact List.mem_append_left _ (.tail _ (.head _))
            · exact List.mem_append_right _ ha4) (go (by omega)) (fr_eq F4 hm4) (fun p hp => N4 p ((List.mem_append.mp hp).elim (ht4 p) (hl4 p))) hlt4 ha4
          have e : 64 - (j + 1) = k := st64' hk64
          rw [e] at this
          exact this
        cases f with
        | ret v => exact h₃
        | brk => exact h₃
        | next => exact fin h₃
        | cont => exact fin h₃
      · rw [hqe] at hr
        have hlt' : ∀ p ∈ Led st, p.1 ≤ c.G ∧ p.1 ≠ c.C := fun p hp => ⟨Nat.le_trans (Nat.le_of_lt (hlt p hp)) c.hC, Nat.ne_of_lt (hlt p hp)⟩
        exact done j st h' tk' _ hP (by exact om29 hj) hr hlt (fun z => ((hgb z).set g (by rfl)).set g (by rfl)) (kept_fr F hk hLC c.hC) (kept_news (fun p hp => N p (List.mem_append_right _ hp)) hk hlt')
  obtain ⟨n, hn⟩ : ∃ n, c.N = n + 1 := ⟨c.N - 1, by omega⟩
  have hst : c.q (n + 1) = .start := by
    rw [hq]
    show posAt c.xs (c.N - (n + 1)) = _
    rw [hn, Nat.sub_self]
    rfl
  have := key n 0 st₀ s.heap s.toks s.gens _ [(c.C, oC), (c.G, oG), (c.aa, c.lst)] [(c.G, oG), (c.C, oC)] (by omega) hp hgs id (.head _) (by
      intro p hp
      simp only [List.mem_cons, List.not_mem_nil, or_false] at hp
      rcases hp with rfl | rfl
      · exact c.hC
      · exact Nat.le_refl _) (by
      intro p hp
      simp only [List.mem_cons, List.not_mem_nil, or_false] at hp
      rcases hp with rfl | rfl | rfl
      · exact List.mem_append_left _ (.tail _ (.head _))
      · exact List.mem_append_left _ (.head _)
      · exact List.mem_append_right _ hla) (fun s' ft => ⟨rfl, seg_new c (by omega) hst hx0 hC hCG ft⟩) (fr_eq F hm) N hlt hla
  exact this
end
/-- a turn's end, in plain words -/
noncomputable def GenTurn {σ : Type} (h₀ : Heap) (N : Nat) (C aa : Addr) (lst : Obj) (L : Addr) (Led : σ → List (Addr × Obj)) (mp : σ → Str → Option Value) (P : Nat → σ → Prop) (tri : List (Addr × Obj)) (j : Nat) (s : Shared) (Q : Flow → Shared → Prop) (f : Flow) (s₂ : Shared) : Prop := match f with
  | .ret v => Q (.ret v) s₂
  | .brk => Q .next s₂
  | _ => ∃ c' h' tk' m' nx, s₂ = { s with heap := h', toks := tk' } ∧ Fr h₀ L h' m' ∧ (∀ y, mp c' y = m' y) ∧ News h₀ L h' nx ∧ (∀ p ∈ Led c', p ∈ nx) ∧ (∀ p ∈ tri, p ∈ nx) ∧ (∀ p ∈ Led c', p.1 < C) ∧ (aa, lst) ∈ Led c' ∧ P (j + 1) c' ∧ j + 1 < N
theorem for_gen {E : Value → Shared → Prop} {s : Shared} {x : Str} {body : List Stmt} {Q : Flow → Shared → Prop} {env : Env} {w : World} {dp un : Nat} {gd : Option (List Code)} {cn : Str} {cs : Scope} {L a : Addr} {ccd : Value} {cl : List (Str × Addr)} {outer : List Env} {mean : ExcName → Option Value} {mg mb : Str → Option Value} {h₀ : Heap}
    {xs : List Int} {vs : List Value} {e : Nat} {C G aa : Addr} {σ : Type} (N : Nat) (Led : σ → List (Addr × Obj)) (mp : σ → Str → Option Value) (P : Nat → σ → Prop) (st₀ : σ) {g : Nat} {oC oG : Obj} {m₀ : Str → Option Value}
    (hX : (hd.heap_39 w.params).In h₀) (hT : Top hd.view_39 (looseW hd.view_39 []) mean mg mb h₀) (hi : IntsAre vs xs)
    (hN0 : 2 ≤ N) (hN63 : N < 64) (hdp : dp < recursionLimit) (hx0 : xs[0]? ≠ some 0) (hCG : C < G) (hLC : L < C)
    (hC : ∀ h : Heap, h.get? C = some oC → h.Ns C (fun y => List.lookup y [(Str.ofString "grouping", .ref aa)])) (hG : ∀ h : Heap, h.get? G = some oG → h.IsGen G g) (hgs : s.gens[g]? = some (.fresh (gFun w C)))
    (F : Fr h₀ L s.heap m₀) (hm : ∀ y, mp st₀ y = m₀ y) (Nw : News h₀ L s.heap ((G, oG) :: (C, oC) :: Led st₀)) (hlt : ∀ p ∈ Led st₀, p.1 < C) (hla : (aa, listOf vs.toArray e) ∈ Led st₀) (hp : P 0 st₀)
    (turn : ∀ (j : Nat) (st : σ) (u : Int) (nx : GP) (t : Tok) (h : Heap) (tk : Nat) (gens : Array GenState) (tri : List (Addr × Obj)), P j st → j < N → rd xs (posAt xs j) = some (u, nx) → (∀ p ∈ Led st, p.1 < C) → (∀ p ∈ tri, C ≤ p.1) → (AllB s.gens → AllB gens) → Fr h₀ L h (mp st) → News h₀ L h (tri ++ Led st) →
      wpAny (model Challenge.rw_ph0059_01.row.prog w) (ktrTop dp un gd cn cs L a ccd cl outer) (storeName env x (.int u t)) (fun _ s₂ => wpAny (model Challenge.rw_ph0059_01.row.prog w) (ktrTop dp un gd cn cs L a ccd cl outer) (execs body env) (GenTurn h₀ N C aa (listOf vs.toArray e) L Led mp P tri j { s with gens := gens } Q) E s₂) E { s with heap := h, gens := gens, toks := tk })
    (done : ∀ (j : Nat) (st : σ) (h : Heap) (tk : Nat) (gens : Array GenState), P j st → j < N → rd xs (posAt xs j) = none → (∀ p ∈ Led st, p.1 < C) → (AllB s.gens → AllB gens) → Fr h₀ L h (mp st) → News h₀ L h (Led st) → Q .next { s with heap := h, gens := gens, toks := tk }) :
    wpAny (model Challenge.rw_ph0059_01.row.prog w) (ktrTop dp un gd cn cs L a ccd cl outer) (pyIter (.ref G)) (OwitAt Challenge.rw_ph0059_01.row.prog w (ktrTop dp un gd cn cs L a ccd cl outer) E env x body Q) E s := by
  have hla' := Nw _ (.tail _ (.tail _ hla))
  let c : GCtx := { w := w, dp := dp, un := un, gd := gd, cn := cn, cs := cs, L := L, a := a, ccd := ccd, cl := cl, outer := outer, mean := mean, mg := mg, mb := mb, h₀ := h₀, q := fun n => posAt xs (N - n), N := N, xs := xs, vs := vs, e := e, C := C, G := G, aa := aa, hX := hX, hT := hT, hi := hi, hq := posAt_next xs N, hs := Nat.le_trans F.above (Nat.le_of_lt hLC), hC := Nat.le_of_lt hCG, ha := Nat.ne_of_lt (hlt _ hla), haG := Nat.le_trans (Nat.le_of_lt (hlt _ hla)) (Nat.le_of_lt hCG), ha0 := hla'.2.2 }
  exact loop_gen c L Led mp P st₀ rfl hN0 hN63 hdp hx0 hCG hLC hC hG hgs F hm Nw hlt hla hp (fun j st u t h tk gens tri hP hj hr => turn j st u hr.choose t h tk gens tri hP hj hr.choose_spec) done
end Mine
end

section
namespace Mine
theorem ls_to' {x : Str} {j : Int} (h0 : 0 ≤ j) : ls (Txt.slice x none (some j)) = (ls x).take j.toNat := by
  by_cases h : j ≤ x.length
  · exact ls_to h0 h
  · have e : Txt.slice x none (some j) = Txt.slice x none (some (x.length : Int)) := by
      show StrLaws.sliceText x none (some j) = StrLaws.sliceText x none (some (x.length : Int))
      unfold StrLaws.sliceText
      rw [sliceIdx_hi_beyond _ (by exact om0 h)]
    rw [e, ls_to (by exact om30) (Int.le_refl _)]
    have := ls_len x
    rw [List.take_of_length_le (by omega), List.take_of_length_le (by exact om1 h0 h this)]
theorem nil_of {x : Str} (h : ls x = []) : x = Str.ofString "" := ls_inj (by rw [h]; rfl)
/-- what the groups are -/
noncomputable def gsplit (xs : List Int) (tot : Nat) (k : Nat) : GP → List Nat → List (List Nat) → List (List Nat) := @Nat.rec (fun _ => GP → List Nat → List (List Nat) → List (List Nat)) (fun _ _ acc => acc) (fun _ ih p left acc => match rd xs p with
    | none => if left = [] then acc else acc ++ [left]
    | some (u, nx) => if left = [] then acc else if (tot : Int) < u then [] else ih nx (left.drop u.toNat) (acc ++ [left.take u.toNat])) k
theorem gsplit_s (xs : List Int) (tot k : Nat) (p : GP) (left : List Nat) (acc : List (List Nat)) : gsplit xs tot (k + 1) p left acc = match rd xs p with
    | none => if left = [] then acc else acc ++ [left]
    | some (u, nx) => if left = [] then acc else if (tot : Int) < u then [] else gsplit xs tot k nx (left.drop u.toNat) (acc ++ [left.take u.toNat]) := rfl
noncomputable def posOk : GP → Prop
  | .start => True
  | .at _ v => 1 ≤ v
  | .rep v => 1 ≤ v
theorem rdAt_ok {xs : List Int} (hx : ∀ x ∈ xs, 0 ≤ x) {i : Nat} {l : Option Int} (hl : ∀ u, l = some u → 1 ≤ u) {u : Int} {p : GP} (h : rdAt xs i l = some (u, p)) : 1 ≤ u ∧ posOk p := by
  unfold rdAt at h
  cases hv : xs[i]? with
  | none => rw [hv] at h; cases h
  | some v =>
    rw [hv] at h
    (try dsimp only at h)
    have hv0 := hx v (List.mem_of_getElem? hv)
    by_cases h1 : v = 127
    · rw [if_pos h1] at h; cases h
    · rw [if_neg h1] at h
      by_cases h2 : v = 0
      · rw [if_pos h2] at h
        cases l with
        | none => cases h
        | some z =>
          have h' := Option.some.inj h
          have e1 : z = u := (Prod.mk.inj h').1
          have e2 : GP.rep z = p := (Prod.mk.inj h').2
          subst e1
          subst e2
          exact ⟨hl _ rfl, hl _ rfl⟩
      · rw [if_neg h2] at h
        have h' := Option.some.inj h
        have e1 : v = u := (Prod.mk.inj h').1
        have e2 : GP.at (i + 1) v = p := (Prod.mk.inj h').2
        subst e1
        subst e2
        have h3 : 1 ≤ v := by omega
        exact ⟨h3, h3⟩
theorem rd_ok {xs : List Int} (hx : ∀ x ∈ xs, 0 ≤ x) {p q : GP} {u : Int} (hp : posOk p) (h : rd xs p = some (u, q)) : 1 ≤ u ∧ posOk q := by
  cases p with
  | start => exact rdAt_ok hx (fun _ z => by cases z) h
  | «at» i v => exact rdAt_ok hx (fun _ z => by cases z; exact hp) h
  | rep v => cases h; exact ⟨hp, hp⟩
theorem posAt_ok {xs : List Int} (hx : ∀ x ∈ xs, 0 ≤ x) : ∀ j, posOk (posAt xs j)
  | 0 => trivial
  | j + 1 => by
    show posOk (nxt xs (posAt xs j))
    unfold nxt
    split
    · rename_i u q e; exact (rd_ok hx (posAt_ok hx j) e).2
    · exact posAt_ok hx j
/-- a def that hands back a new list of texts; generators may have been made -/
noncomputable def SpG (w : World) (mean : ExcName → Option Value) (mg mb : Str → Option Value) (f : Addr) (dd uu : Nat) (Pre : List (Addr × Obj) → Prop) (vs : List Value) (R : List (List Nat)) : Prop :=
  ∀ (news : List (Addr × Obj)) (dp un : Nat) (gd : Option (List Code)) (cn : Str) (cs : Scope) (a : Addr) (ccd : Value) (cl : List (Str × Addr)) (outer : List Env) (A₀ : Around) (base h₀ : Heap) (L : Addr) (m : Str → Option Value) (s : Shared) (Q E : Value → Shared → Prop),
    Below A₀ base outer h₀ → Fr h₀ L s.heap m → (hd.heap_39 w.params).In h₀ → News h₀ L s.heap news → Top hd.view_39 (looseW hd.view_39 []) mean mg mb h₀ → cs.kind = .function →
    dp + dd < recursionLimit → un + uu < cLine → Pre news →
    (∀ (l : Addr) (us : List Value) (ss : List Str) (e : Nat) (h' : Heap) (tk' : Nat) (gens : Array GenState), Fr h₀ L h' m → News h₀ L h' ((l, listOf us.toArray e) :: news) → (∀ p ∈ news, p.1 < l) → StrsAre us ss → ss.map ls = R → (AllB s.gens → AllB gens) → Q (.ref l) { s with heap := h', toks := tk', gens := gens }) →
    wpAny (model Challenge.rw_ph0059_01.row.prog w) (ktrTop dp un gd cn cs L a ccd cl outer) (call (.ref f) vs) Q E s
noncomputable def grDef (w : World) : DefAt (hd.heap_39 w.params) 56 := by
  refine ⟨?_, ?_, ?_, ?_, ?_, ?_, ?_, ?_, ?_, ?_, ?_, ?_, ?_, ?_, ?_, ?ho⟩
  case ho => exact rfl
structure GrC where
  vs : List Value
  ss : List Str
  e : Nat
  left : Str
  tl : Tok
  u : Str → Option Value
noncomputable def grMap (aa ll : Addr) (x : Str) (tx : Tok) (c : GrC) : Str → Option Value := fun z => if z = Str.ofString "left" then some (Value.str c.left c.tl) else if z = Str.ofString "groups" then some (Value.ref ll) else if z = Str.ofString "size" then c.u z else List.lookup z [(Str.ofString "text", Value.str x tx), (Str.ofString "row", Value.ref aa)]
/-- behind the loop -/
noncomputable def GrPost (g' : Heap) (L' aa ll : Addr) (x : Str) (tx : Tok) (news : List (Addr × Obj)) (RES : List (List Nat)) (s : Shared) : Flow → Shared → Prop
  | .next, s' => ∃ (c : GrC) (h : Heap) (tk : Nat) (gens : Array GenState), s' = { s with heap := h, toks := tk, gens := gens } ∧ StrsAre c.vs c.ss ∧ (if ls c.left = [] then c.ss.map ls else c.ss.map ls ++ [ls c.left]) = RES ∧ (AllB s.gens → AllB gens) ∧ Fr g' L' h (grMap aa ll x tx c) ∧ News g' L' h ((ll, listOf c.vs.toArray c.e) :: news) ∧ c.vs.length ≤ 7
  | .ret v, s' => ∃ (l : Addr) (h : Heap) (tk : Nat) (gens : Array GenState) (m' : Str → Option Value), v = .ref l ∧ s' = { s with heap := h, toks := tk, gens := gens } ∧ RES = [] ∧ (AllB s.gens → AllB gens) ∧ Fr g' L' h m' ∧ News g' L' h ((l, listOf #[] 0) :: news) ∧ (∀ p ∈ news, p.1 < l)
  | _, _ => False
theorem groups_spec (w : World) (mean : ExcName → Option Value) (mg mb : Str → Option Value) (aa : Addr) (us : List Value) (ue : Nat) (xs : List Int) (x : Str) (tx : Tok) (hu : IntsAre us xs) (hx : x.length ≤ 5) (hpos : ∀ y ∈ xs, 0 ≤ y) (h0 : xs[0]? ≠ some 0) :
   SpG w mean mg mb 56 2 24 (fun news => (aa, listOf us.toArray ue) ∈ news) [.ref aa, .str x tx] (gsplit xs x.length (x.length + 2) .start (ls x) []) := by
  unfold SpG
  k_fill
  intro news dp un gd cn cs a ccd cl outer A₀ base h₀ L m s Q E hB hF hX hN hT hcs hdp hun hpre hret
  refine wpAny_call ?_
  w_on
  k_dflt (refine' code_def (binds := [(Str.ofString "row", .ref aa), (Str.ofString "text", .str x tx)]) ?k1 ?k2 ?k3 ?k4 ?k5 ?kA ?kF ?kK ?k6 ?k7 ?k8 ?k9 ?kB ?_ ?c2 ?c3 ?c4 ?c5)
  k_dflt (((case k1 | k2 | k3 | k4 | k5 => k_asm); (case kA | kF => exact rfl); (case kK => assumption); (case k6 | k7 => k_is); (case k8 => first | exact Mine.room_lt (by assumption) | ktr_room); (case k9 => exact BindsTo.of_eq rfl); (case c5 => decide); (case kB => exact locs rfl); (case c2 | c3 | c4 => exact rfl); k_whole))
  replace hdp := room hdp
  replace hun := room hun
  intro g' L' h' FG' F' N' B' X' T'
  (try dsimp only [List.reverse, List.reverseAux] at F' ⊢)
  k_fold
  (repeat' (first | (k_unfold; (try dsimp only)) | ((fail_if_success (with_reducible first | show wpAny _ _ (exec (Stmt.For _ _ _ _ _) _) _ _ _ | show wpAny _ _ (exec (Stmt.While _ _ _ _) _) _ _ _ | show wpAny _ _ (pyIter _) _ _ _ | show wpAny _ _ (call (Value.ref _) _ _) _ _ _ | show wpAny _ _ (eval (Expr.Subscript _ (Expr.Slice none (some (Expr.BoolOp _ _ _)) none _) _) _) _ _ _ | show wpAny _ _ (exec (Stmt.If _ [Stmt.Assign [Expr.Tuple _ _ _] _ _] _ _) _) _ _ _ | show wpAny _ _ (exec (Stmt.If (Expr.BoolOp _ _ _) [Stmt.Assign [Expr.Name _ _] (Expr.Subscript _ _ _) _] _ _) _) _ _ _)); walk1; (try dsimp only)) | ((fail_if_success (with_reducible first | show wpAny _ _ (exec (Stmt.For _ _ _ _ _) _) _ _ _ | show wpAny _ _ (exec (Stmt.While _ _ _ _) _) _ _ _ | show wpAny _ _ (pyIter _) _ _ _ | show wpAny _ _ (call (Value.ref _) _ _) _ _ _ | show wpAny _ _ (eval (Expr.Subscript _ (Expr.Slice none (some (Expr.BoolOp _ _ _)) none _) _) _) _ _ _ | show wpAny _ _ (exec (Stmt.If _ [Stmt.Assign [Expr.Tuple _ _ _] _ _] _ _) _) _ _ _ | show wpAny _ _ (exec (Stmt.If (Expr.BoolOp _ _ _) [Stmt.Assign [Expr.Name _ _] (Expr.Subscript _ _ _) _] _ _) _) _ _ _)); dsimp only; walk1) | (leave1; (try dsimp only)) | fail "no step"))
  rename Fr _ _ _ _ => F1
  rename News _ _ _ _ => N1
  refine led_name N1 ?_
  intro ll e
  subst e
  have hll : ∀ p ∈ news, p.1 < ll := by assumption
  obtain ⟨RES, hRES⟩ : ∃ R, R = gsplit xs x.length (x.length + 2) .start (ls x) [] := ⟨_, rfl⟩
  rw [← hRES] at hret
  refine wpAny_mono (Q := GrPost g' L' aa ll x tx news RES s) ?loop ?rest (fun _ _ z => z)
  case rest =>
    clear F1 N1
    intro f s' hf
    cases f with
    | brk => exact hf.elim
    | cont => exact hf.elim
    | ret v =>
      obtain ⟨l, h, tk, gens, m', rfl, rfl, hr, hgb, F2, N2, hl⟩ := hf
      (try dsimp only)
      (repeat' (first | (k_unfold; (try dsimp only)) | ((fail_if_success (with_reducible first | show wpAny _ _ (exec (Stmt.For _ _ _ _ _) _) _ _ _ | show wpAny _ _ (exec (Stmt.While _ _ _ _) _) _ _ _ | show wpAny _ _ (pyIter _) _ _ _ | show wpAny _ _ (call (Value.ref _) _ _) _ _ _ | show wpAny _ _ (eval (Expr.Subscript _ (Expr.Slice none (some (Expr.BoolOp _ _ _)) none _) _) _) _ _ _ | show wpAny _ _ (exec (Stmt.If _ [Stmt.Assign [Expr.Tuple _ _ _] _ _] _ _) _) _ _ _ | show wpAny _ _ (exec (Stmt.If (Expr.BoolOp _ _ _) [Stmt.Assign [Expr.Name _ _] (Expr.Subscript _ _ _) _] _ _) _) _ _ _)); walk1; (try dsimp only)) | ((fail_if_success (with_reducible first | show wpAny _ _ (exec (Stmt.For _ _ _ _ _) _) _ _ _ | show wpAny _ _ (exec (Stmt.While _ _ _ _) _) _ _ _ | show wpAny _ _ (pyIter _) _ _ _ | show wpAny _ _ (call (Value.ref _) _ _) _ _ _ | show wpAny _ _ (eval (Expr.Subscript _ (Expr.Slice none (some (Expr.BoolOp _ _ _)) none _) _) _) _ _ _ | show wpAny _ _ (exec (Stmt.If _ [Stmt.Assign [Expr.Tuple _ _ _] _ _] _ _) _) _ _ _ | show wpAny _ _ (exec (Stmt.If (Expr.BoolOp _ _ _) [Stmt.Assign [Expr.Name _ _] (Expr.Subscript _ _ _) _] _ _) _) _ _ _)); dsimp only; walk1) | (leave1; (try dsimp only)) | fail "no step"))
      exact hret _ [] [] _ _ _ _ (by assumption) (by assumption) hl .nil (by rw [hr]; rfl) hgb
    | next =>
      obtain ⟨c, h, tk, gens, rfl, hs, hr, hgb, F2, N2, hl⟩ := hf
      (try dsimp only)
      unfold grMap at F2
      have hcl : c.ss.length = c.vs.length := hs.length.symm
      (repeat' (first | (k_unfold; (try dsimp only)) | ((fail_if_success (with_reducible first | show wpAny _ _ (exec (Stmt.For _ _ _ _ _) _) _ _ _ | show wpAny _ _ (exec (Stmt.While _ _ _ _) _) _ _ _ | show wpAny _ _ (pyIter _) _ _ _ | show wpAny _ _ (call (Value.ref _) _ _) _ _ _ | show wpAny _ _ (eval (Expr.Subscript _ (Expr.Slice none (some (Expr.BoolOp _ _ _)) none _) _) _) _ _ _ | show wpAny _ _ (exec (Stmt.If _ [Stmt.Assign [Expr.Tuple _ _ _] _ _] _ _) _) _ _ _ | show wpAny _ _ (exec (Stmt.If (Expr.BoolOp _ _ _) [Stmt.Assign [Expr.Name _ _] (Expr.Subscript _ _ _) _] _ _) _) _ _ _)); walk1; (try dsimp only)) | ((fail_if_success (with_reducible first | show wpAny _ _ (exec (Stmt.For _ _ _ _ _) _) _ _ _ | show wpAny _ _ (exec (Stmt.While _ _ _ _) _) _ _ _ | show wpAny _ _ (pyIter _) _ _ _ | show wpAny _ _ (call (Value.ref _) _ _) _ _ _ | show wpAny _ _ (eval (Expr.Subscript _ (Expr.Slice none (some (Expr.BoolOp _ _ _)) none _) _) _) _ _ _ | show wpAny _ _ (exec (Stmt.If _ [Stmt.Assign [Expr.Tuple _ _ _] _ _] _ _) _) _ _ _ | show wpAny _ _ (exec (Stmt.If (Expr.BoolOp _ _ _) [Stmt.Assign [Expr.Name _ _] (Expr.Subscript _ _ _) _] _ _) _) _ _ _)); dsimp only; walk1) | (leave1; (try dsimp only)) | fail "no step"))
      · rename Fr _ _ _ _ => F4
        rename News _ _ _ _ => N4
        refine append_K F4 N4 (Upd.head (by k_all)) ?_ (by simp only [List.size_toArray]; rw [sizeLine_eq]; omega)
        intro h6 F6 N6
        simp only [List.push_toArray] at N6
        (repeat' (first | (k_unfold; (try dsimp only)) | ((fail_if_success (with_reducible first | show wpAny _ _ (exec (Stmt.For _ _ _ _ _) _) _ _ _ | show wpAny _ _ (exec (Stmt.While _ _ _ _) _) _ _ _ | show wpAny _ _ (pyIter _) _ _ _ | show wpAny _ _ (call (Value.ref _) _ _) _ _ _ | show wpAny _ _ (eval (Expr.Subscript _ (Expr.Slice none (some (Expr.BoolOp _ _ _)) none _) _) _) _ _ _ | show wpAny _ _ (exec (Stmt.If _ [Stmt.Assign [Expr.Tuple _ _ _] _ _] _ _) _) _ _ _ | show wpAny _ _ (exec (Stmt.If (Expr.BoolOp _ _ _) [Stmt.Assign [Expr.Name _ _] (Expr.Subscript _ _ _) _] _ _) _) _ _ _)); walk1; (try dsimp only)) | ((fail_if_success (with_reducible first | show wpAny _ _ (exec (Stmt.For _ _ _ _ _) _) _ _ _ | show wpAny _ _ (exec (Stmt.While _ _ _ _) _) _ _ _ | show wpAny _ _ (pyIter _) _ _ _ | show wpAny _ _ (call (Value.ref _) _ _) _ _ _ | show wpAny _ _ (eval (Expr.Subscript _ (Expr.Slice none (some (Expr.BoolOp _ _ _)) none _) _) _) _ _ _ | show wpAny _ _ (exec (Stmt.If _ [Stmt.Assign [Expr.Tuple _ _ _] _ _] _ _) _) _ _ _ | show wpAny _ _ (exec (Stmt.If (Expr.BoolOp _ _ _) [Stmt.Assign [Expr.Name _ _] (Expr.Subscript _ _ _) _] _ _) _) _ _ _)); dsimp only; walk1) | (leave1; (try dsimp only)) | fail "no step"))
        refine hret ll _ (c.ss ++ [c.left]) _ _ _ _ (by assumption) (by assumption) hll (kct_snoc hs) ?_ hgb
        have hne : (c.left != Str.ofString "") = true := by assumption
        rw [if_neg (fun z => by rw [nil_of z] at hne; exact absurd hne (by decide))] at hr
        rw [← hr, List.map_append]
        rfl
      · have hne : (c.left != Str.ofString "") = false := by assumption
        have e : c.left = Str.ofString "" := by simpa using hne
        rw [if_pos (by rw [e]; rfl)] at hr
        exact hret ll _ _ _ _ _ _ (by assumption) (by assumption) hll hs hr hgb
  case loop =>
    refine owit_for ?_
    (repeat' (first | (k_unfold; (try dsimp only)) | ((fail_if_success (with_reducible first | show wpAny _ _ (exec (Stmt.For _ _ _ _ _) _) _ _ _ | show wpAny _ _ (exec (Stmt.While _ _ _ _) _) _ _ _ | show wpAny _ _ (pyIter _) _ _ _ | show wpAny _ _ (call (Value.ref _) _ _) _ _ _ | show wpAny _ _ (eval (Expr.Subscript _ (Expr.Slice none (some (Expr.BoolOp _ _ _)) none _) _) _) _ _ _ | show wpAny _ _ (exec (Stmt.If _ [Stmt.Assign [Expr.Tuple _ _ _] _ _] _ _) _) _ _ _ | show wpAny _ _ (exec (Stmt.If (Expr.BoolOp _ _ _) [Stmt.Assign [Expr.Name _ _] (Expr.Subscript _ _ _) _] _ _) _) _ _ _)); walk1; (try dsimp only)) | ((fail_if_success (with_reducible first | show wpAny _ _ (exec (Stmt.For _ _ _ _ _) _) _ _ _ | show wpAny _ _ (exec (Stmt.While _ _ _ _) _) _ _ _ | show wpAny _ _ (pyIter _) _ _ _ | show wpAny _ _ (call (Value.ref _) _ _) _ _ _ | show wpAny _ _ (eval (Expr.Subscript _ (Expr.Slice none (some (Expr.BoolOp _ _ _)) none _) _) _) _ _ _ | show wpAny _ _ (exec (Stmt.If _ [Stmt.Assign [Expr.Tuple _ _ _] _ _] _ _) _) _ _ _ | show wpAny _ _ (exec (Stmt.If (Expr.BoolOp _ _ _) [Stmt.Assign [Expr.Name _ _] (Expr.Subscript _ _ _) _] _ _) _) _ _ _)); dsimp only; walk1) | (leave1; (try dsimp only)) | fail "no step"))
    rename Fr _ _ _ _ => F1
    rename News _ _ _ _ => N1
    have hroom : (dp + 1) < recursionLimit := room_0 (a := _) (by assumption) (by decide)
    refine gen_call F1 X' N1 T' hroom ?_
    intro C G oC oG h1 tk1 hLC hCG hlt F2 N2 hC hG _ _
    (try dsimp only at F2 N2 ⊢)
    clear F1 N1
    have hgs : (s.gens.push (.fresh (gFun w C)))[s.gens.size]? = some (.fresh (gFun w C)) := by simp
    have hgb0 : AllB s.gens → AllB (s.gens.push (.fresh (gFun w C))) := fun z => z.push rfl
    have hlC : ll < C := hlt _ (.head _)
    show wpAny _ (ktrTop (dp + 1) (un + 3) gd (grDef w).qual (grDef w).scope L' 56 (.ref 55) [] (envX cn cs L a ccd cl :: outer)) _ (OwitAt _ w (ktrTop (dp + 1) (un + 3) gd (grDef w).qual (grDef w).scope L' 56 (.ref 55) [] (envX cn cs L a ccd cl :: outer)) _ _ _ _ _) _ _
    refine for_gen (σ := GrC) (x.length + 2) (fun c => (ll, listOf c.vs.toArray c.e) :: news) (grMap aa ll x tx)
      (fun j c => StrsAre c.vs c.ss ∧ gsplit xs x.length (x.length + 2 - j) (posAt xs j) (ls c.left) (c.ss.map ls) = RES ∧ j + (ls c.left).length ≤ x.length ∧ c.vs.length ≤ j) ⟨[], [], 0, x, tx, fun _ => none⟩ (g := s.gens.size) (oC := oC) (oG := oG) X' T' hu ?qN0 ?qN63 hroom h0 hCG hLC hC hG hgs F2 ?qm N2 hlt (.tail _ hpre) ?qp ?qturn ?qdone
    case qN0 => omega
    case qN63 => omega
    case qm =>
      intro z
      (try dsimp only [grMap])
      split
      · rfl
      · split
        · rfl
        · split
          · rename_i e; subst e; rfl
          · rfl
    case qp =>
      refine ⟨.nil, hRES.symm, ?_, Nat.le_refl _⟩
      rw [ls_len, Nat.zero_add]
      exact Nat.le_refl _
    case qdone =>
      intro j st h tk gens hP hj hr hlt hgb F3 N3
      obtain ⟨hp1, hp2, hp3, hp4⟩ := hP
      refine ⟨st, h, tk, gens, rfl, hp1, ?_, fun z => hgb (hgb0 z), F3, N3, by omega⟩
      obtain ⟨k, hk⟩ : ∃ k, x.length + 2 - j = k + 1 := ⟨x.length + 1 - j, st2 (by omega)⟩
      rw [hk] at hp2
      rw [← hp2]
      show _ = gsplit xs x.length (k + 1) _ _ _
      rw [gsplit_s]
      rw [hr]
    case qturn =>
      clear F2 N2 hC hG hgs hF hN hX hT hB
      intro j st u nx t h tk gens tri hP hj hr hlt htri hgb F3 N3
      obtain ⟨hp1, hp2, hp3, hp4⟩ := hP
      have hu1 : 1 ≤ u := (rd_ok hpos (posAt_ok hpos j) hr).1
      obtain ⟨k, hk⟩ : ∃ k, x.length + 2 - j = k + 1 := ⟨x.length + 1 - j, st2 (by omega)⟩
      rw [hk] at hp2
      rw [gsplit_s] at hp2
      rw [hr] at hp2
      have hnn : ∀ p ∈ news, p.1 ≠ ll := ne_of_allLt hll
      have htn : ∀ p ∈ tri, p.1 ≠ ll := fun p hp => Nat.ne_of_gt (Nat.lt_of_lt_of_le hlC (htri p hp))
      have N4 : News g' L' h ((ll, listOf st.vs.toArray st.e) :: (tri ++ news)) := fun p hp => N3 p (by
        rcases List.mem_cons.mp hp with rfl | hp
        · exact List.mem_append_right _ (.head _)
        · exact (List.mem_append.mp hp).elim (List.mem_append_left _) fun z => List.mem_append_right _ (.tail _ z))
      clear N3
      have hll5 : st.left.length ≤ 5 := by rw [← ls_len]; exact om31 hx hj hp3
      unfold grMap at F3
      (try dsimp only at F3 N4 hp2 ⊢)
      clear hret
      have hvl : st.vs.length ≤ 6 := by omega
      (repeat' (first | (k_unfold; (try dsimp only)) | ((fail_if_success (with_reducible first | show wpAny _ _ (exec (Stmt.For _ _ _ _ _) _) _ _ _ | show wpAny _ _ (exec (Stmt.While _ _ _ _) _) _ _ _ | show wpAny _ _ (pyIter _) _ _ _ | show wpAny _ _ (call (Value.ref _) _ _) _ _ _ | show wpAny _ _ (eval (Expr.Subscript _ (Expr.Slice none (some (Expr.BoolOp _ _ _)) none _) _) _) _ _ _ | show wpAny _ _ (exec (Stmt.If _ [Stmt.Assign [Expr.Tuple _ _ _] _ _] _ _) _) _ _ _ | show wpAny _ _ (exec (Stmt.If (Expr.BoolOp _ _ _) [Stmt.Assign [Expr.Name _ _] (Expr.Subscript _ _ _) _] _ _) _) _ _ _)); walk1; (try dsimp only)) | ((fail_if_success (with_reducible first | show wpAny _ _ (exec (Stmt.For _ _ _ _ _) _) _ _ _ | show wpAny _ _ (exec (Stmt.While _ _ _ _) _) _ _ _ | show wpAny _ _ (pyIter _) _ _ _ | show wpAny _ _ (call (Value.ref _) _ _) _ _ _ | show wpAny _ _ (eval (Expr.Subscript _ (Expr.Slice none (some (Expr.BoolOp _ _ _)) none _) _) _) _ _ _ | show wpAny _ _ (exec (Stmt.If _ [Stmt.Assign [Expr.Tuple _ _ _] _ _] _ _) _) _ _ _ | show wpAny _ _ (exec (Stmt.If (Expr.BoolOp _ _ _) [Stmt.Assign [Expr.Name _ _] (Expr.Subscript _ _ _) _] _ _) _) _ _ _)); dsimp only; walk1) | (leave1; (try dsimp only)) | fail "no step"))
      · have he : (st.left == Str.ofString "") = true := by assumption
        have e : ls st.left = [] := by
          have : st.left = Str.ofString "" := by simpa using he
          rw [this]; rfl
        rename Fr _ _ _ _ => F5
        rename News _ _ _ _ => N5
        show GrPost g' L' aa ll x tx news _ s .next _
        refine ⟨⟨st.vs, st.ss, st.e, st.left, st.tl, fun _ => some (Value.int u t)⟩, _, _, gens, rfl, hp1, ?_, fun z => hgb (hgb0 z), fr_eq F5 (fun z => ?_), fun p hp => N5 p ?_, Nat.le_trans hvl (by decide)⟩
        · rw [if_pos e] at hp2 ⊢
          exact hp2
        · (try dsimp only [grMap])
          by_cases h1 : z = Str.ofString "size"
          · subst h1; rfl
          · simp [h1]
        · rcases List.mem_cons.mp hp with rfl | hp
          · exact .head _
          · exact .tail _ (List.mem_append_right _ hp)
      · rename Fr _ _ _ _ => F5
        rename News _ _ _ _ => N5
        have he : (st.left == Str.ofString "") = false := by assumption
        have hgt : (x.length : Int) < u := by assumption
        refine led_name N5 ?_
        intro l9 e9
        subst e9
        have e : ls st.left ≠ [] := fun z => by rw [nil_of z] at he; exact absurd he (by decide)
        rw [if_neg e, if_pos hgt] at hp2
        show GrPost g' L' aa ll x tx news _ s (.ret _) _
        refine ⟨_, _, _, gens, _, rfl, rfl, hp2.symm, fun z => hgb (hgb0 z), F5, fun p hp => N5 p ?_, fun p hp => ?_⟩
        · rcases List.mem_cons.mp hp with rfl | hp
          · exact .head _
          · exact .tail _ (.tail _ (List.mem_append_right _ hp))
        · rename (_ < _ ∧ _) => hlt9
          exact of_allLt hlt9.2 p (List.mem_append_right _ hp)
      · rename Fr _ _ _ _ => F5
        rename News _ _ _ _ => N5
        have he : (st.left == Str.ofString "") = false := by assumption
        have hgt : ¬ (x.length : Int) < u := by assumption
        have e : ls st.left ≠ [] := fun z => by rw [nil_of z] at he; exact absurd he (by decide)
        rw [if_neg e, if_neg hgt] at hp2
        refine append_K F5 N5 (Upd.head (by k_all)) ?_ ?sz
        case sz =>
          simp only [List.size_toArray]; rw [sizeLine_eq]
          have : st.vs.length ≤ 6 := hvl
          exact om27 hvl
        intro h6 F6 N6
        simp only [List.push_toArray] at N6
        (repeat' (first | (k_unfold; (try dsimp only)) | ((fail_if_success (with_reducible first | show wpAny _ _ (exec (Stmt.For _ _ _ _ _) _) _ _ _ | show wpAny _ _ (exec (Stmt.While _ _ _ _) _) _ _ _ | show wpAny _ _ (pyIter _) _ _ _ | show wpAny _ _ (call (Value.ref _) _ _) _ _ _ | show wpAny _ _ (eval (Expr.Subscript _ (Expr.Slice none (some (Expr.BoolOp _ _ _)) none _) _) _) _ _ _ | show wpAny _ _ (exec (Stmt.If _ [Stmt.Assign [Expr.Tuple _ _ _] _ _] _ _) _) _ _ _ | show wpAny _ _ (exec (Stmt.If (Expr.BoolOp _ _ _) [Stmt.Assign [Expr.Name _ _] (Expr.Subscript _ _ _) _] _ _) _) _ _ _)); walk1; (try dsimp only)) | ((fail_if_success (with_reducible first | show wpAny _ _ (exec (Stmt.For _ _ _ _ _) _) _ _ _ | show wpAny _ _ (exec (Stmt.While _ _ _ _) _) _ _ _ | show wpAny _ _ (pyIter _) _ _ _ | show wpAny _ _ (call (Value.ref _) _ _) _ _ _ | show wpAny _ _ (eval (Expr.Subscript _ (Expr.Slice none (some (Expr.BoolOp _ _ _)) none _) _) _) _ _ _ | show wpAny _ _ (exec (Stmt.If _ [Stmt.Assign [Expr.Tuple _ _ _] _ _] _ _) _) _ _ _ | show wpAny _ _ (exec (Stmt.If (Expr.BoolOp _ _ _) [Stmt.Assign [Expr.Name _ _] (Expr.Subscript _ _ _) _] _ _) _) _ _ _)); dsimp only; walk1) | (leave1; (try dsimp only)) | fail "no step"))
        rename Fr _ _ _ _ => F7
        rename News _ _ _ _ => N7
        have hl1 : 1 ≤ (ls st.left).length := List.length_pos_iff.mpr e
        have hl2 : (ls (Txt.slice st.left (some u) none)).length + 1 ≤ (ls st.left).length := by
          rw [ls_from (by exact om32 hu1), List.length_drop]; exact om33 hu1 hl1
        have hl3 : st.ss.length = st.vs.length := hp1.length.symm
        obtain ⟨t8, N8⟩ : ∃ t8, News g' L' _ ((ll, listOf (st.vs ++ [Value.str (Txt.slice st.left none (some u)) t8]).toArray (st.e + 1)) :: (tri ++ news)) := ⟨_, N7⟩
        obtain ⟨m7, F8, t9, hm7⟩ : ∃ m7, Fr g' L' _ m7 ∧ (∃ t9, ∀ z, m7 z = if z = Str.ofString "left" then some (Value.str (Txt.slice st.left (some u) none) t9) else if z = Str.ofString "size" then some (Value.int u t) else if z = Str.ofString "left" then some (Value.str st.left st.tl) else if z = Str.ofString "groups" then some (Value.ref ll) else if z = Str.ofString "size" then st.u z else List.lookup z [(Str.ofString "text", Value.str x tx), (Str.ofString "row", Value.ref aa)]) := ⟨_, F7, _, fun z => rfl⟩
        refine ⟨⟨st.vs ++ [Value.str (Txt.slice st.left none (some u)) t8], st.ss ++ [Txt.slice st.left none (some u)], st.e + 1, Txt.slice st.left (some u) none, t9, fun _ => some (Value.int u t)⟩, _, _, _, _, rfl, F8, ?_, N8, ?_, ?_, ?_, .tail _ hpre, ⟨kct_snoc hp1, ?_, ?_, ?_⟩, by omega⟩
        · intro z
          rw [hm7]
          (try dsimp only [grMap])
          by_cases h1 : z = Str.ofString "left"
          · subst h1; rfl
          · by_cases h2 : z = Str.ofString "size"
            · subst h2; rfl
            · simp [h1, h2]
        · exact List.forall_mem_cons.mpr ⟨.head _, fun p hp => .tail _ (List.mem_append_right _ hp)⟩
        · exact fun p hp => .tail _ (List.mem_append_left _ hp)
        · exact List.forall_mem_cons.mpr ⟨hlC, fun p hp => hlt p (.tail _ hp)⟩
        · have e3 : x.length + 2 - (j + 1) = k := (Nat.sub_succ _ _).trans (by rw [hk]; rfl)
          rw [e3, ← hp2, List.map_append]
          have e4 : posAt xs (j + 1) = nx := by
            show nxt xs (posAt xs j) = nx
            unfold nxt
            rw [hr]
          rw [e4]
          have e5 : List.map ls [Txt.slice st.left none (some u)] = [List.take u.toNat (ls st.left)] := by
            show [ls (Txt.slice st.left none (some u))] = _
            rw [ls_to' (by exact om32 hu1)]
          have e6 : ls (Txt.slice st.left (some u) none) = List.drop u.toNat (ls st.left) := ls_from (by exact om32 hu1)
          (try dsimp only)
          rw [e5, e6]
        · show j + 1 + (ls (Txt.slice st.left (some u) none)).length ≤ x.length
          omega
        · simp only [List.length_append, List.length_singleton]
          omega
end Mine
end

section
namespace Mine
theorem sub_vs : isSubtype (.type "ValueError") (.type "StopIteration") = pure false := by rw [isSubtype_type]; kernel_rfl
/-- a resume that ends by ValueError -/
theorem pyNext_genE {prog : Program} {w : World} {A : Around} {E : Value → Shared → Prop} {s : Shared} {a : Addr} {g n : Nat} {gs : GenState} {P : Addr → Shared → Shared → Prop} {Q : Option Value → Shared → Prop}
    (hl : s.heap.NoLimit) (hroom : A.depth < recursionLimit)
    (hg : s.heap.IsGen a g) (hgs : s.gens[g]? = some gs)
    (hgo : gs.Goes (model prog w) A.in1 (fun _ s₀ r s₁ => ∃ e, r = .error (.ref e) ∧ P e s₀ s₁) (fun _ _ _ _ _ => False) n (.send .none) (s.setGen g .running))
    (hP : ∀ e s₁, P e (s.setGen g .running) s₁ → s₁.TypeIs (.ref e) "ValueError" ∧ (∃ o nm qn, s₁.heap.get? a = some o ∧ o.cls = .type "generator" ∧ o.data = .fields #[.int g 0, nm, qn]) ∧ E (.ref e) (s₁.setGen g .finished)) :
    wpAny (model prog w) A (pyNext (.ref a)) Q E s := by
  unfold pyNext
  refine wpAny_bind (wpAny_attempt (wpAny_callSpecial?_slot (name := Str.ofString "__next__") hg.typeIs slot_gen_next
    (wpAny_call_entry slot_gen_next hg.typeIs entry_gen_next ?_ (args_gen_next _))))
  show wpAny _ _ (Builtin.Generator.genWake (.ref a) (.send .none)) _ _ s
  unfold Builtin.Generator.genWake
  refine wpAny_bind (wpAny_holding (wpAny_genNumber hg (wpAny_bind (wpAny_genState hgs ?_))))
  cases gs with
  | running => exact hgo.elim
  | finished => exact hgo.elim
  | _ =>
    refine wpAny_bind (wpAny_roomToWake hl hroom ?_)
    show wpAny _ _ (.resume g (.send .none) [] _) _ _ s
    refine wpAny_resumeQ hgs hgo (fun x s₁ hx => ?_) (fun v s₁ gs' hb hv => hv.elim)
    obtain ⟨e, rfl, hp⟩ := hx
    obtain ⟨hT, ⟨o, nm, qn, ho, hoc, hod⟩, hE⟩ := hP e s₁ hp
    have hT' : (s₁.setGen g .finished).TypeIs (.ref e) "ValueError" := hT
    show wpAny _ _ (Builtin.Generator.genLeft (.ref a) (.ref e)) _ _ _
    unfold Builtin.Generator.genLeft Builtin.Generator.madeByALambda
    refine wpAny_bind (wpAny_bind (wpAny_load ho ?_))
    refine wpAny_pure ?_
    refine wpAny_bind (wpAny_isInstance (T := "ValueError") (b := false) hT' sub_vs ?_)
    rw [Bool.and_false, if_neg Bool.false_ne_true]
    unfold Builtin.Generator.genEscaped
    refine wpAny_bind (wpAny_isInstance (T := "ValueError") (b := false) hT' sub_vs ?_)
    show wpAny _ _ (throw _) _ _ _
    refine wpAny_throw ?_
    refine wpAny_bind (wpAny_isInstance (T := "ValueError") (b := false) hT' sub_vs ?_)
    rw [if_neg Bool.false_ne_true]
    exact wpAny_throw hE
end Mine
end

section
namespace Mine
/-- a def with a try, called from the law (whose frame may have cells) -/
theorem code_try {prog : Program} {w : World} {A₀ A : Around} {s : Shared} {base h₀ : Heap} {L a : Addr} {m : Str → Option Value} {cn : Str} {cs : Scope} {ccd : Value} {cl : List (Str × Addr)} {news : List (Addr × Obj)} {K : Frag} {p : Program} {loose : List Str} {mean : ExcName → Option Value} {mg mb : Str → Option Value}
    {R : Result → Shared → Prop} {f : Addr} (d : DefAt K f) {args : Args} {binds : List (Str × Value)}
    (B : Below A₀ base [] h₀) (F : Fr h₀ L s.heap m) (X₀ : K.In h₀) (N : News h₀ L s.heap news) (T : Top p loose mean mg mb h₀) (hA : A.frames = some [envX cn cs L a ccd cl])
    (hcd : codeIn K d.cdv d.qual = true) (hroom : A.depth < recursionLimit)
    (hbind : BindsTo s (fnOf d.name d.qual d.params d.body d.scope d.dV d.kV d.doc d.pm d.an d.cdv d.ct) args binds) (hloc : ∀ y ∈ binds, d.scope.names.lookup y.1 = some .local)
    (h : ∀ g L' h₁, Fr h₀ L g m → Fr g L' h₁ (fun y => binds.reverse.lookup y) → News g L' h₁ news → Below A base [envX cn cs L a ccd cl] g → K.In g → Top p loose mean mg mb g → KtsDicts [L] g → (∀ p ∈ news, p.1 < L') →
      wpAny (model prog w) (A.deeper (envOf d.qual d.scope L' f d.cdv)) (execs d.body (envOf d.qual d.scope L' f d.cdv))
        (fun fl s' => LeaveS0 [L] h₀ L m g R (match fl with | .ret v => v | _ => .none) s')
        (fun e s' => wpAny (model prog w) (A.deeper (envOf d.qual d.scope L' f d.cdv)) (leaving (envOf d.qual d.scope L' f d.cdv) e) (fun _ s'' => R (.error e) s'') (fun e' s'' => R (.error e') s'') s')
        { s with heap := h₁, toks := s.toks + binds.length })
    (hck : cs.kind = .function) (hco : d.scope.isCoroutine = false) (hgen : d.scope.isGenerator = false) (hk : d.scope.kind = .function)
    (hcell : ∀ x ∈ d.scope.names, x.2 ≠ .cell) : codeAny (model prog w) A (.call (.ref f) args) R s := by
  have X := X₀.keeps F.keep
  obtain ⟨FG, BG, st, _⟩ := groundX (R := R) B F N hA rfl hck
  refine codeAny_call_def (fd := fnOf d.name d.qual d.params d.body d.scope d.dV d.kV d.doc d.pm d.an d.cdv d.ct) (body := d.body) (binds := binds) hroom (X _ _ d.ho) rfl (T.nolimit.keeps F.keep) (codeRec_of X hcd) rfl hbind hcell hloc (fun h₁ hns hk₁ => ?_) hco hgen hk
  have nL₀ : h₀.get? L = none := kts_self F
  obtain ⟨oL, es, ep, hLg, hLd, hLk, hLf⟩ := FG.ns
  refine wpAny_mono (h _ s.heap.objs.size h₁ FG ⟨hns, fun b o e => hk₁ b o (of_hideAll _ e), Nat.le_of_eq (hideAll_size _ _)⟩
    (fun p hp => ⟨hk₁ _ _ (N p hp).1, Nat.ne_of_lt (Heap.lt_size (N p hp).1), hideAll_none _ (List.mem_map_of_mem hp)⟩) BG (X₀.keeps st) (T.keeps st) (fun b hb => by
      rw [List.mem_singleton.mp hb]; exact ⟨oL, es, ep, hLg, hLd⟩) (fun p hp => Heap.lt_size (N p hp).1)) (fun fl s' hl => ?_) fun _ _ y => y
  obtain ⟨g', L', m', news', T', F', N', k⟩ := hl
  obtain ⟨sl, hs⟩ := T'.up hLg
  have hLh := F'.keep _ _ hs
  refine k ⟨⟨_, es, ep, hLh, hLd, hLk, hLf⟩, fun b o e => F'.keep b o (T'.other b o (st b o e) (fun q => by rw [List.mem_singleton.mp q, nL₀] at e; cases e)), F.above⟩ fun p hp => ?_
  obtain ⟨h1, h2, h3⟩ := N' p hp
  refine ⟨h1, fun q => ?_, ?_⟩
  · rw [q, hs] at h3; cases h3
  · cases q : h₀.get? p.1 with
    | none => rfl
    | some o =>
      obtain ⟨sl', z⟩ := T'.up (st _ _ q)
      rw [h3] at z; cases z
noncomputable def rfDef (w : World) : DefAt (hd.heap_39 w.params) 63 := by
  refine ⟨?_, ?_, ?_, ?_, ?_, ?_, ?_, ?_, ?_, ?_, ?_, ?_, ?_, ?_, ?_, ?ho⟩
  case ho => exact rfl
noncomputable def SpR (w : World) (mean : ExcName → Option Value) (mg mb : Str → Option Value) (f : Addr) (Pre : List (Addr × Obj) → Prop) (vs : List Value) : Prop :=
  ∀ (news : List (Addr × Obj)) (dp un : Nat) (gd : Option (List Code)) (cn : Str) (cs : Scope) (a : Addr) (ccd : Value) (cl : List (Str × Addr)) (A₀ : Around) (base h₀ : Heap) (L : Addr) (m : Str → Option Value) (s : Shared) (Q E : Value → Shared → Prop),
    Below A₀ base [] h₀ → Fr h₀ L s.heap m → (hd.heap_39 w.params).In h₀ → News h₀ L s.heap news → Top hd.view_39 (looseW hd.view_39 []) mean mg mb h₀ → ((hd.heap_39 w.params).In base ∧ Top hd.view_39 (looseW hd.view_39 []) mean mg mb base) → cs.kind = .function →
    dp + 3 < recursionLimit → un + 40 < cLine → Pre news →
    (∀ (h' : Heap) (tk' : Nat) (gens : Array GenState), Fr h₀ L h' m → News h₀ L h' news → (AllB s.gens → AllB gens) → Q (.bool true) { s with heap := h', toks := tk', gens := gens }) →
    wpAny (model Challenge.rw_ph0059_01.row.prog w) (ktrTop dp un gd cn cs L a ccd cl []) (call (.ref f) vs) Q E s
theorem refused_spec (w : World) (mean : ExcName → Option Value) (mg mb : Str → Option Value) (aa : Addr) (us : List Value) (ue : Nat) (xs : List Int) (hu : IntsAre us xs) (hx : xs[0]? = some 0) :
    SpR w mean mg mb 63 (fun news => (aa, listOf us.toArray ue) ∈ news) [.ref aa] := by
  unfold SpR
  k_fill
  intro news dp un gd cn cs a ccd cl A₀ base h₀ L m s Q E hB hF hX hN hT hXT hcs hdp hun hpre hret
  refine wpAny_call ?_
  refine code_try (rfDef w) (binds := [(Str.ofString "row", .ref aa)]) hB hF hX hN hT rfl rfl (show dp < recursionLimit by omega) (BindsTo.of_eq rfl) (locs rfl) ?_ hcs rfl rfl rfl (by dsimp only [rfDef]; decide)
  intro g' L' h' FG' F' N' B' X' T' D' hlt
  (try dsimp only [List.reverse, List.reverseAux] at F' ⊢)
  show wpAny _ (ktrTop (dp + 1) (un + 3) gd (rfDef w).qual (rfDef w).scope L' 63 (rfDef w).cdv [] [envX cn cs L a ccd cl]) _ _ _ _
  w_on
  (try dsimp only [rfDef])
  k_fold
  (repeat' (first | (k_unfold; (try dsimp only)) | ((fail_if_success (with_reducible first | show wpAny _ _ (exec (Stmt.For _ _ _ _ _) _) _ _ _ | show wpAny _ _ (exec (Stmt.While _ _ _ _) _) _ _ _ | show wpAny _ _ (pyIter _) _ _ _ | show wpAny _ _ (call (Value.ref _) _ _) _ _ _ | show wpAny _ _ (eval (Expr.Subscript _ (Expr.Slice none (some (Expr.BoolOp _ _ _)) none _) _) _) _ _ _ | show wpAny _ _ (exec (Stmt.If _ [Stmt.Assign [Expr.Tuple _ _ _] _ _] _ _) _) _ _ _ | show wpAny _ _ (exec (Stmt.If (Expr.BoolOp _ _ _) [Stmt.Assign [Expr.Name _ _] (Expr.Subscript _ _ _) _] _ _) _) _ _ _)); walk1; (try dsimp only)) | ((fail_if_success (with_reducible first | show wpAny _ _ (exec (Stmt.For _ _ _ _ _) _) _ _ _ | show wpAny _ _ (exec (Stmt.While _ _ _ _) _) _ _ _ | show wpAny _ _ (pyIter _) _ _ _ | show wpAny _ _ (call (Value.ref _) _ _) _ _ _ | show wpAny _ _ (eval (Expr.Subscript _ (Expr.Slice none (some (Expr.BoolOp _ _ _)) none _) _) _) _ _ _ | show wpAny _ _ (exec (Stmt.If _ [Stmt.Assign [Expr.Tuple _ _ _] _ _] _ _) _) _ _ _ | show wpAny _ _ (exec (Stmt.If (Expr.BoolOp _ _ _) [Stmt.Assign [Expr.Name _ _] (Expr.Subscript _ _ _) _] _ _) _) _ _ _)); dsimp only; walk1) | (leave1; (try dsimp only)) | fail "no step"))
  refine owit_for ?_
  (repeat' (first | (k_unfold; (try dsimp only)) | ((fail_if_success (with_reducible first | show wpAny _ _ (exec (Stmt.For _ _ _ _ _) _) _ _ _ | show wpAny _ _ (exec (Stmt.While _ _ _ _) _) _ _ _ | show wpAny _ _ (pyIter _) _ _ _ | show wpAny _ _ (call (Value.ref _) _ _) _ _ _ | show wpAny _ _ (eval (Expr.Subscript _ (Expr.Slice none (some (Expr.BoolOp _ _ _)) none _) _) _) _ _ _ | show wpAny _ _ (exec (Stmt.If _ [Stmt.Assign [Expr.Tuple _ _ _] _ _] _ _) _) _ _ _ | show wpAny _ _ (exec (Stmt.If (Expr.BoolOp _ _ _) [Stmt.Assign [Expr.Name _ _] (Expr.Subscript _ _ _) _] _ _) _) _ _ _)); walk1; (try dsimp only)) | ((fail_if_success (with_reducible first | show wpAny _ _ (exec (Stmt.For _ _ _ _ _) _) _ _ _ | show wpAny _ _ (exec (Stmt.While _ _ _ _) _) _ _ _ | show wpAny _ _ (pyIter _) _ _ _ | show wpAny _ _ (call (Value.ref _) _ _) _ _ _ | show wpAny _ _ (eval (Expr.Subscript _ (Expr.Slice none (some (Expr.BoolOp _ _ _)) none _) _) _) _ _ _ | show wpAny _ _ (exec (Stmt.If _ [Stmt.Assign [Expr.Tuple _ _ _] _ _] _ _) _) _ _ _ | show wpAny _ _ (exec (Stmt.If (Expr.BoolOp _ _ _) [Stmt.Assign [Expr.Name _ _] (Expr.Subscript _ _ _) _] _ _) _) _ _ _)); dsimp only; walk1) | (leave1; (try dsimp only)) | fail "no step"))
  rename Fr _ _ _ _ => F1
  rename News _ _ _ _ => N1
  obtain ⟨FG2, BG2, st2, _⟩ := groundX (A := ktrTop (dp + 1) (un + 3) gd (rfDef w).qual (rfDef w).scope L' 63 (rfDef w).cdv [] [envX cn cs L a ccd cl]) (R := fun _ _ => True) (s := { s with heap := h' }) B' F1 N1 rfl rfl rfl
  have hroom : dp + 1 < recursionLimit := by omega
  refine gen_call F1 X' N1 T' hroom ?_
  intro C G oC oG h1 tk1 hLC hCG hlt1 F2 N2 hC hG hCs hk1
  (try dsimp only at F2 N2 hCs hk1 FG2 BG2 st2 ⊢)
  have hsz : (hideAll h' (news.map (·.1))).objs.size = C := (hideAll_size _ _).trans hCs.symm
  have keep2 : ∀ b o, (hideAll h' (news.map (·.1))).get? b = some o → h1.get? b = some o := fun b o e => hk1 b o (of_hideAll _ e)
  have none2 : ∀ p ∈ news, (hideAll h' (news.map (·.1))).get? p.1 = none := fun p hp => hideAll_none _ (List.mem_map_of_mem hp)
  have noneC : ∀ b, C ≤ b → (hideAll h' (news.map (·.1))).get? b = none := fun b hb => Heap.get?_none_of_le (by rw [hsz]; exact hb)
  generalize hideAll h' (news.map (·.1)) = g₂ at *
  have FC : Fr g₂ C h1 (fun y => List.lookup y [(Str.ofString "grouping", .ref aa)]) := ⟨hC _ (N2 _ (.tail _ (.head _))).1, keep2, Nat.le_of_eq hsz⟩
  have NC : News g₂ C h1 ((G, oG) :: news) := fun p hp => by
    rcases List.mem_cons.mp hp with rfl | hp
    · exact ⟨(N2 _ (.head _)).1, Nat.ne_of_gt hCG, noneC _ (Nat.le_of_lt hCG)⟩
    · exact ⟨(N2 _ (.tail _ (.tail _ hp))).1, Nat.ne_of_lt (hlt1 p hp), none2 p hp⟩
  have BG3 : Below (ktrTop (dp + 1) (un + 4) gd (rfDef w).qual (rfDef w).scope L' 63 (rfDef w).cdv [] [envX cn cs L a ccd cl]) base [envX (rfDef w).qual (rfDef w).scope L' 63 (rfDef w).cdv [], envX cn cs L a ccd cl] g₂ := ⟨rfl, BG2.stays, BG2.frames⟩
  have X2 : (hd.heap_39 w.params).In g₂ := X'.keeps st2
  have T2 : Top hd.view_39 (looseW hd.view_39 []) mean mg mb g₂ := T'.keeps st2
  refine wpAny_pyIter_gen (hG _ (N2 _ (.head _)).1) (OwitAt.intro (OwitRest.succ ?_))
  have hgs : (s.gens.push (.fresh (gFun w C)))[s.gens.size]? = some (.fresh (gFun w C)) := by simp
  refine pyNext_genE (n := 0) (P := fun e s₀ s₁ => ∃ t tt h2 tk2, s₁ = { s₀ with heap := h2, toks := tk2 } ∧ RaisedS base g₂ [envX (rfDef w).qual (rfDef w).scope L' 63 (rfDef w).cdv [], envX cn cs L a ccd cl] e (.type "ValueError") t [.str (Str.ofString "invalid grouping") tt] ((G, oG) :: news) h2 ∧ g₂.UpToSlots h2) (T'.nolimit.keeps F2.keep) hroom (hG _ (N2 _ (.head _)).1) hgs ⟨rfl, ?seg⟩ ?hP
  case seg =>
    refine seg_bad (dp := dp + 1) (un := un + 3) (h₀ := g₂) (aa := aa) (vs := us) (e := ue) (xs := xs) (news := (G, oG) :: news) X2 T2 FC NC (.tail _ hpre) hu hx ?_
    intro ex h h2 tk2 t m2 hm F N
    refine leave_raiseS (A := ktrTop (dp + 1) (un + 4) gd (rfDef w).qual (rfDef w).scope L' 63 (rfDef w).cdv [] [envX cn cs L a ccd cl]) BG3 hm F N (fun h3 t3 R3 _ U3 => ?_)
    exact ⟨ex, rfl, t3, t, h3, tk2, rfl, R3, U3⟩
  case hP =>
    rintro e s₁ ⟨t, tt, h2, tk2, rfl, RS, U⟩
    refine ⟨?_, ?_, ?_⟩
    · obtain ⟨⟨_, _, _, _, hfl, _⟩, _⟩ := RS
      obtain ⟨ob, h3, h4⟩ := hfl.there
      exact ⟨ob, h3, h4⟩
    · obtain ⟨⟨Bh, _, _, hl, hfl, _⟩, _⟩ := RS
      obtain ⟨o, nm, qn, h3, h4, h5, _⟩ := hG h2 (hfl.1 _ _ (hl _ (.head _)).1)
      exact ⟨o, nm, qn, h3, h4, h5⟩
    · have hgb : AllB s.gens → AllB (((s.gens.push (.fresh (gFun w C))).setIfInBounds s.gens.size .running).setIfInBounds s.gens.size .finished) := fun z => ((z.push rfl).set _ rfl).set _ rfl
      clear hG hC hgs X2 T2 BG3 FC NC F2 N2
      (try dsimp only [Shared.setGen])
      refine caught_SB (T' := "ValueError") (KF := hd.heap_39 w.params) (p := hd.view_39) (loose := looseW hd.view_39 []) (mean := mean) (mg := mg) (mb := mb) RS FG2 B' U hXT.1 hXT.2 D' KtsTurn.refl rfl PyProof.Rows.Boot.«ValueError» (by decide) PySem.F.isExc_ValueError PySem.F.notTuple_ValueError (by rw [isSubtype_type]; kernel_rfl) ?_
      intro h3 g3 news2 tk3 TT F3 N3 Gt N4 B3 X3 P3 D3
      clear RS FG2 B' U D' hXT st2 F1 N1 BG2 hB hF hX hN hT X' T' FG'
      (try dsimp only at *)
      (repeat' (first | (k_unfold; (try dsimp only)) | ((fail_if_success (with_reducible first | show wpAny _ _ (exec (Stmt.For _ _ _ _ _) _) _ _ _ | show wpAny _ _ (exec (Stmt.While _ _ _ _) _) _ _ _ | show wpAny _ _ (pyIter _) _ _ _ | show wpAny _ _ (call (Value.ref _) _ _) _ _ _ | show wpAny _ _ (eval (Expr.Subscript _ (Expr.Slice none (some (Expr.BoolOp _ _ _)) none _) _) _) _ _ _ | show wpAny _ _ (exec (Stmt.If _ [Stmt.Assign [Expr.Tuple _ _ _] _ _] _ _) _) _ _ _ | show wpAny _ _ (exec (Stmt.If (Expr.BoolOp _ _ _) [Stmt.Assign [Expr.Name _ _] (Expr.Subscript _ _ _) _] _ _) _) _ _ _)); walk1; (try dsimp only)) | ((fail_if_success (with_reducible first | show wpAny _ _ (exec (Stmt.For _ _ _ _ _) _) _ _ _ | show wpAny _ _ (exec (Stmt.While _ _ _ _) _) _ _ _ | show wpAny _ _ (pyIter _) _ _ _ | show wpAny _ _ (call (Value.ref _) _ _) _ _ _ | show wpAny _ _ (eval (Expr.Subscript _ (Expr.Slice none (some (Expr.BoolOp _ _ _)) none _) _) _) _ _ _ | show wpAny _ _ (exec (Stmt.If _ [Stmt.Assign [Expr.Tuple _ _ _] _ _] _ _) _) _ _ _ | show wpAny _ _ (exec (Stmt.If (Expr.BoolOp _ _ _) [Stmt.Assign [Expr.Name _ _] (Expr.Subscript _ _ _) _] _ _) _) _ _ _)); dsimp only; walk1) | (leave1; (try dsimp only)) | fail "no step"))
      refine leaveS0_ (news' := (G, oG) :: news) (by assumption) (by assumption) TT (fun Fk Nk => ?_)
      have e1 : (Str.ofString "invalid grouping" == Str.ofString "invalid grouping") = true := by simp
      rw [e1]
      exact hret _ _ _ Fk (fun p hp => Nk p (.tail _ hp)) hgb
end Mine
end

section
namespace Mine
theorem D_le_at (c : Nat) (u : List Nat) : ∀ (v : List Nat) (k : Nat), k < v.length → D (c :: u) v ≤ 2 * (k : Int) + pr c (v.getD k 0) + D u (v.drop (k + 1)) := by
  intro v
  induction v with
  | nil => intro k hk; exact absurd hk (Nat.not_lt_zero _)
  | cons d v ih =>
    intro k hk
    cases k with
    | zero =>
      have := D_c3 c d u v
      simp only [List.getD_cons_zero, List.drop_succ_cons, List.drop_zero]
      omega
    | succ k =>
      have h1 := D_c2 c d u v
      have h2 := ih k (by simpa using hk)
      simp only [List.getD_cons_succ, List.drop_succ_cons]
      have : ((k + 1 : Nat) : Int) = (k : Int) + 1 := by simp
      omega
theorem D_is_at (c : Nat) (u : List Nat) : ∀ v : List Nat, D (c :: u) v = 2 + D u v ∨ ∃ k, k < v.length ∧ D (c :: u) v = 2 * (k : Int) + pr c (v.getD k 0) + D u (v.drop (k + 1)) := by
  intro v
  induction v with
  | nil =>
    left
    rw [D_nil_r, D_nil_r, List.length_cons]
    have : ((u.length + 1 : Nat) : Int) = (u.length : Int) + 1 := by simp
    omega
  | cons d v ih =>
    rcases D_cases c d u v with h | h | h
    · left; omega
    · rcases ih with h2 | ⟨k, hk, h2⟩
      · left
        have h3 := D_le_cons_r d u v
        have h4 := D_c1 c d u v
        omega
      · right
        refine ⟨k + 1, by simpa using hk, ?_⟩
        simp only [List.getD_cons_succ, List.drop_succ_cons]
        have : ((k + 1 : Nat) : Int) = (k : Int) + 1 := by simp
        omega
    · right
      refine ⟨0, by simp, ?_⟩
      simp only [List.getD_cons_zero, List.drop_succ_cons, List.drop_zero]
      omega
theorem least_D : ∀ u v, least u v = D u v := by
  intro u
  induction u with
  | nil => intro v; rw [D_nil, least_nil]
  | cons c u ih =>
    intro v
    rw [least_cons]
    symm
    apply least_is
    · rcases D_is_at c u v with h | ⟨k, hk, h⟩
      · rw [h, ih]; exact .head _
      · refine .tail _ (List.mem_map.mpr ⟨k, List.mem_range.mpr hk, ?_⟩)
        rw [h, ih]
    · intro b hb
      rcases List.mem_cons.mp hb with rfl | hb
      · rw [ih]
        have := D_le_cons c u v
        omega
      · obtain ⟨k, hk, rfl⟩ := List.mem_map.mp hb
        rw [ih]
        exact D_le_at c u v k (List.mem_range.mp hk)
theorem D_split_r (w : List Nat) (u v : List Nat) : ∃ v1 v2, v = v1 ++ v2 ∧ D u v1 + D w v2 ≤ D (u ++ w) v := by
  obtain ⟨v1, v2, h1, h2⟩ := D_split w v u
  refine ⟨v1, v2, h1, ?_⟩
  rw [D_symm u v1, D_symm w v2, D_symm (u ++ w) v]
  exact h2
theorem D_cross_nil (p r T : List Nat) : D p T + D r T ≤ D (p ++ r) T + D [] T := by
  obtain ⟨v1, v2, rfl, h⟩ := D_split_r r p T
  have h1 := D_concat [] v2 p v1
  have h2 := D_concat r v2 [] v1
  rw [List.append_nil] at h1
  rw [List.nil_append] at h2
  rw [D_nil] at h1 h2 ⊢
  rw [List.length_append]
  have e : ((v1.length + v2.length : Nat) : Int) = (v1.length : Int) + v2.length := by simp
  rw [e]
  omega
/-- two cheapest ways must cross -/
theorem D_cross : ∀ (n : Nat) (p q r T : List Nat), p.length + 2 * q.length + 3 * T.length ≤ n → D (p ++ q) T + D (q ++ r) T ≤ D (p ++ q ++ r) T + D q T := by
  intro n
  induction n with
  | zero =>
    intro p q r T h
    have hp : p = [] := List.eq_nil_of_length_eq_zero (by omega)
    subst hp
    simp only [List.nil_append]
    exact om36
  | succ n ih =>
    intro p q r T h
    cases p with
    | nil => simp only [List.nil_append]; exact om36
    | cons c p =>
    cases q with
    | nil =>
      have := D_cross_nil (c :: p) r T
      simp only [List.append_nil, List.nil_append] at this ⊢
      exact this
    | cons e q =>
    cases T with
    | nil =>
      simp only [D_nil_r, List.length_append, List.length_cons]
      omega
    | cons d T =>
      simp only [List.length_cons] at h
      have a1 : c :: p ++ e :: q = c :: (p ++ e :: q) := rfl
      have a2 : e :: q ++ r = e :: (q ++ r) := rfl
      have a3 : c :: p ++ e :: q ++ r = c :: (p ++ e :: q ++ r) := rfl
      have b1 : (c :: p ++ [e]) ++ q = c :: (p ++ e :: q) := by simp
      have b2 : (c :: p ++ [e]) ++ q ++ r = c :: (p ++ e :: q ++ r) := by simp
      have b3 : (p ++ [e]) ++ q = p ++ e :: q := by simp
      have b4 : (p ++ [e]) ++ q ++ r = p ++ e :: q ++ r := by simp
      rw [a3, a1, a2]
      rcases D_cases e d q T with hb | hb | hb
      · -- the short way leaves its first sign out
        have i := ih (c :: p ++ [e]) q r (d :: T) (by simp only [List.length_append, List.length_cons, List.length_nil]; omega)
        rw [b2, b1] at i
        have j := D_le_cons e (q ++ r) (d :: T)
        exact om37 hb i j
      · rcases D_cases c d (p ++ e :: q ++ r) T with ha | ha | ha
        · have i := ih p (e :: q) r (d :: T) (by simp only [List.length_cons]; exact om38 h)
          rw [a2] at i
          have j := D_le_cons c (p ++ e :: q) (d :: T)
          exact om39 hb ha i j
        · have i := ih (c :: p) (e :: q) r T (by simp only [List.length_cons]; omega)
          rw [a3, a1, a2] at i
          have j1 := D_le_cons_r d (c :: (p ++ e :: q)) T
          have j2 := D_le_cons_r d (e :: (q ++ r)) T
          exact om40 hb ha i j1 j2
        · have i := ih p (e :: q) r T (by simp only [List.length_cons]; omega)
          rw [a2] at i
          have j1 := D_c3 c d (p ++ e :: q) T
          have j2 := D_le_cons_r d (e :: (q ++ r)) T
          exact om41 hb ha i j1 j2
      · rcases D_cases c d (p ++ e :: q ++ r) T with ha | ha | ha
        · have i := ih p (e :: q) r (d :: T) (by simp only [List.length_cons]; exact om38 h)
          rw [a2] at i
          have j := D_le_cons c (p ++ e :: q) (d :: T)
          exact om42 hb ha i j
        · have i := ih (c :: p ++ [e]) q r T (by simp only [List.length_append, List.length_cons, List.length_nil]; omega)
          rw [b2, b1] at i
          have j1 := D_le_cons_r d (c :: (p ++ e :: q)) T
          have j2 := D_c3 e d (q ++ r) T
          exact om43 hb ha i j1 j2
        · have i := ih (p ++ [e]) q r T (by simp only [List.length_append, List.length_cons, List.length_nil]; omega)
          rw [b4, b3] at i
          have j1 := D_c3 c d (p ++ e :: q) T
          have j2 := D_c3 e d (q ++ r) T
          exact om44 hb ha i j1 j2
end Mine
end

section
namespace Mine
noncomputable def rep (W : List Nat) (k : Nat) : List Nat := @Nat.rec (fun _ => List Nat) [] (fun _ r => W ++ r) k
theorem rep_0 (W : List Nat) : rep W 0 = [] := rfl
theorem rep_s (W : List Nat) (k : Nat) : rep W (k + 1) = W ++ rep W k := rfl
theorem rep_snoc (W : List Nat) : ∀ k, rep W k ++ W = rep W (k + 1)
  | 0 => (List.append_nil W).symm
  | k + 1 => by
    show (W ++ rep W k) ++ W = W ++ rep W (k + 1)
    rw [List.append_assoc, rep_snoc W k]
noncomputable def f (W T : List Nat) (k : Nat) : Int := D (rep W k) T
theorem f_conv (W T : List Nat) (k : Nat) : 2 * f W T (k + 1) ≤ f W T k + f W T (k + 1 + 1) := by
  have h := D_cross _ W (rep W k) W T (Nat.le_refl _)
  rw [rep_snoc] at h
  have e : W ++ rep W k ++ W = rep W (k + 1 + 1) := by rw [List.append_assoc, rep_snoc]; rfl
  rw [e] at h
  have e2 : W ++ rep W k = rep W (k + 1) := rfl
  rw [e2] at h
  unfold f
  omega
theorem D_ge_append (u v : List Nat) : ∀ w : List Nat, D u v ≤ D (w ++ u) v + 2 * (w.length : Int)
  | [] => by simp
  | c :: w => by
    have h1 := D_ge_append u v w
    have h2 := (D_ge_cons (w ++ u) v).1 c
    rw [List.cons_append, List.length_cons]
    have : ((w.length + 1 : Nat) : Int) = (w.length : Int) + 1 := by simp
    omega
theorem f_up (W T : List Nat) (k : Nat) : f W T (k + 1) ≤ f W T k + 2 * (W.length : Int) := by
  have h := D_concat (rep W k) T W []
  rw [List.nil_append, D_nil_r] at h
  have : D (rep W (k + 1)) T = D (W ++ rep W k) T := rfl
  unfold f
  omega
theorem f_down (W T : List Nat) (k : Nat) : f W T k ≤ f W T (k + 1) + 2 * (W.length : Int) := D_ge_append (rep W k) T W
/-- steps grow -/
theorem f_steps (W T : List Nat) (i : Nat) : ∀ j, f W T (i + 1) - f W T i ≤ f W T (i + j + 1) - f W T (i + j)
  | 0 => Int.le_refl _
  | j + 1 => by
    have h1 := f_steps W T i j
    have h2 := f_conv W T (i + j)
    have e : i + (j + 1) = i + j + 1 := by exact om45
    rw [e]
    omega
theorem f_above (W T : List Nat) (t : Nat) : ∀ j : Nat, f W T t + (f W T (t + 1) - f W T t) * (j : Int) ≤ f W T (t + j)
  | 0 => by simp
  | j + 1 => by
    have h1 := f_above W T t j
    have h2 := f_steps W T t j
    have e : t + (j + 1) = t + j + 1 := by exact om45
    have e2 : ((j + 1 : Nat) : Int) = (j : Int) + 1 := by simp
    rw [e, e2, Int.mul_add, Int.mul_one]
    omega
theorem f_below (W T : List Nat) (k : Nat) : ∀ j : Nat, f W T (k + j) - (f W T (k + j + 1) - f W T (k + j)) * (j : Int) ≤ f W T k
  | 0 => by simp
  | j + 1 => by
    have h1 := f_below W T k j
    have h2 := f_conv W T (k + j)
    have e : k + (j + 1) = k + j + 1 := by exact om45
    have e2 : ((j + 1 : Nat) : Int) = (j : Int) + 1 := by simp
    rw [e, e2, Int.mul_add, Int.mul_one]
    have h3 : (f W T (k + j + 1) - f W T (k + j)) * (j : Int) ≤ (f W T (k + j + 1 + 1) - f W T (k + j + 1)) * (j : Int) := Int.mul_le_mul_of_nonneg_right (by omega) (by exact om30)
    omega
/-- the slope at t lies below -/
theorem f_slope (W T : List Nat) (t k : Nat) : f W T t + (f W T (t + 1) - f W T t) * ((k : Int) - t) ≤ f W T k := by
  rcases Nat.le_total t k with h | h
  · obtain ⟨j, rfl⟩ := Nat.le.dest h
    have := f_above W T t j
    have e : (((t + j : Nat) : Int) - t) = (j : Int) := by omega
    rw [e]; exact this
  · obtain ⟨j, rfl⟩ := Nat.le.dest h
    have := f_below W T k j
    have e : ((k : Int) - ((k + j : Nat) : Int)) = -(j : Int) := by omega
    rw [e, Int.mul_neg]
    omega
noncomputable def sumD (W : List Nat) (l : List (List Nat)) : Int := @List.rec (List Nat) (fun _ => Int) 0 (fun g _ s => D W g + s) l
theorem sumD_nil (W : List Nat) : sumD W [] = 0 := rfl
theorem sumD_cons (W g : List Nat) (gs : List (List Nat)) : sumD W (g :: gs) = D W g + sumD W gs := rfl
theorem f_le_sum (W : List Nat) : ∀ gs : List (List Nat), f W gs.flatten gs.length ≤ sumD W gs
  | [] => by simp [f, rep_0, sumD_nil, D_nil]
  | g :: gs => by
    have h1 := f_le_sum W gs
    have h2 := D_concat (rep W gs.length) gs.flatten W g
    show D (W ++ rep W gs.length) (g ++ gs.flatten) ≤ D W g + sumD W gs
    unfold f at h1
    omega
theorem f_le_more (W T : List Nat) (k : Nat) : ∀ j : Nat, f W T (k + j) ≤ f W T k + 2 * (W.length : Int) * (j : Int)
  | 0 => by simp
  | j + 1 => by
    have h1 := f_le_more W T k j
    have h2 := f_up W T (k + j)
    have e : k + (j + 1) = k + j + 1 := by exact om45
    have e2 : ((j + 1 : Nat) : Int) = (j : Int) + 1 := by simp
    rw [e, e2, Int.mul_add, Int.mul_one]
    omega
theorem split_all (W : List Nat) : ∀ (t : Nat) (T : List Nat), ∃ vs : List (List Nat), vs.length = t + 1 ∧ vs.flatten = T ∧ sumD W vs ≤ f W T (t + 1)
  | 0, T => ⟨[T], rfl, by simp, by simp [sumD_nil, sumD_cons, f, rep_0, rep_s]⟩
  | t + 1, T => by
    obtain ⟨v1, v2, rfl, h⟩ := D_split_r (rep W (t + 1)) W T
    obtain ⟨vs, h1, h2, h3⟩ := split_all W t v2
    refine ⟨v1 :: vs, by simp [h1], by simp [h2], ?_⟩
    show D W v1 + sumD W vs ≤ D (W ++ rep W (t + 1)) (v1 ++ v2)
    unfold f at h3
    omega
/-- the empty groups left out -/
theorem sum_filter (W : List Nat) : ∀ vs : List (List Nat), ∃ gs : List (List Nat), (∀ g ∈ gs, g ≠ []) ∧ gs.flatten = vs.flatten ∧ gs.length ≤ vs.length ∧ sumD W gs + 2 * (W.length : Int) * ((vs.length : Int) - gs.length) = sumD W vs
  | [] => ⟨[], by simp, rfl, Nat.le_refl _, by simp⟩
  | v :: vs => by
    obtain ⟨gs, h1, h2, h3, h4⟩ := sum_filter W vs
    by_cases hv : v = []
    · subst hv
      refine ⟨gs, h1, by simp [h2], by simp only [List.length_cons]; omega, ?_⟩
      have e : (((List.length ([] :: vs) : Nat) : Int) - gs.length) = ((vs.length : Int) - gs.length) + 1 := by simp only [List.length_cons]; omega
      rw [e, Int.mul_add, Int.mul_one]
      show _ = D W [] + sumD W vs
      rw [D_nil_r]
      omega
    · refine ⟨v :: gs, ?_, by simp [h2], by simp only [List.length_cons]; omega, ?_⟩
      · intro g hg
        rcases List.mem_cons.mp hg with rfl | hg
        · exact hv
        · exact h1 g hg
      · have e : (((v :: vs).length : Nat) : Int) - ((v :: gs).length : Nat) = (vs.length : Int) - gs.length := by simp only [List.length_cons]; omega
        rw [e]
        show D W v + sumD W gs + _ = D W v + sumD W vs
        omega
end Mine
end

section
namespace Mine
noncomputable def cutBy (l : List Int) : List Nat → List (List Nat) := @List.rec Int (fun _ => List Nat → List (List Nat)) (fun _ => []) (fun s _ ih T => T.take s.toNat :: ih (T.drop s.toNat)) l
noncomputable def lens (gs : List (List Nat)) : List Int := gs.map fun g => (g.length : Int)
theorem cutBy_lens : ∀ gs : List (List Nat), cutBy (lens gs) gs.flatten = gs
  | [] => rfl
  | g :: gs => by
    show ((g ++ gs.flatten).take (g.length : Int).toNat) :: cutBy (lens gs) ((g ++ gs.flatten).drop (g.length : Int).toNat) = g :: gs
    rw [Int.toNat_natCast, List.take_left, List.drop_left, cutBy_lens gs]
noncomputable def sumI (l : List Int) : Int := @List.rec Int (fun _ => Int) 0 (fun a _ s => a + s) l
theorem sumI_nil : sumI [] = 0 := rfl
theorem sumI_cons (a : Int) (l : List Int) : sumI (a :: l) = a + sumI l := rfl
theorem sumI_append (a b : List Int) : sumI (a ++ b) = sumI a + sumI b := by
  induction a with
  | nil => simp [sumI_nil, sumI_cons]
  | cons x a ih => show x + sumI (a ++ b) = x + sumI a + sumI b; rw [ih]; exact om46
theorem sumI_pos : ∀ l : List Int, (∀ x ∈ l, 1 ≤ x) → 0 ≤ sumI l
  | [], _ => Int.le_refl _
  | x :: l, h => by
    have := sumI_pos l fun y hy => h y (.tail _ hy)
    have := h x (.head _)
    show 0 ≤ x + sumI l
    omega
theorem cutBy_flat : ∀ (ss : List Int) (T : List Nat), (∀ x ∈ ss, 1 ≤ x) → sumI ss = T.length → (cutBy ss T).flatten = T ∧ lens (cutBy ss T) = ss
  | [], T, _, h => by
    have : T = [] := List.eq_nil_of_length_eq_zero (by simp [sumI_nil, sumI_cons] at h; omega)
    subst this
    exact ⟨rfl, rfl⟩
  | s :: ss, T, hp, h => by
    have h1 := hp s (.head _)
    have h2 : s + sumI ss = T.length := h
    have h3 := sumI_pos ss fun y hy => hp y (.tail _ hy)
    obtain ⟨i1, i2⟩ := cutBy_flat ss (T.drop s.toNat) (fun y hy => hp y (.tail _ hy)) (by rw [List.length_drop]; omega)
    constructor
    · show T.take s.toNat ++ (cutBy ss (T.drop s.toNat)).flatten = T
      rw [i1, List.take_append_drop]
    · show ((T.take s.toNat).length : Int) :: lens (cutBy ss (T.drop s.toNat)) = s :: ss
      rw [i2, List.length_take]
      congr 1
      omega
theorem sizes_ok (bits : Nat) : ∀ k, (∀ x ∈ sizesOf bits k, 1 ≤ x) ∧ sumI (sizesOf bits k) = (k : Int) + 1 ∧ sizesOf bits k ≠ []
  | 0 => by simp [sizesOf_0, sumI_nil, sumI_cons]
  | k + 1 => by
    obtain ⟨h1, h2, h3⟩ := sizes_ok bits k
    show (∀ x ∈ stepS (sizesOf bits k) (bitAt bits k), 1 ≤ x) ∧ sumI (stepS (sizesOf bits k) (bitAt bits k)) = ((k + 1 : Nat) : Int) + 1 ∧ stepS (sizesOf bits k) (bitAt bits k) ≠ []
    have e2 : ((k + 1 : Nat) : Int) = (k : Int) + 1 := by simp
    unfold stepS
    split
    · refine ⟨?_, ?_, by simp⟩
      · intro x hx
        rcases List.mem_append.mp hx with hx | hx
        · exact h1 x hx
        · rw [List.mem_singleton.mp hx]; exact Int.le_refl _
      · rw [sumI_append, h2, e2]; simp [sumI_nil, sumI_cons]
    · have hl : sizesOf bits k = (sizesOf bits k).dropLast ++ [(sizesOf bits k).getLastD 0] := by
        rw [List.getLastD_eq_getLast?, List.getLast?_eq_some_getLast h3]
        exact (List.dropLast_concat_getLast h3).symm
      generalize (sizesOf bits k).dropLast = ini at *
      generalize (sizesOf bits k).getLastD 0 = la at *
      rw [hl] at h1 h2
      rw [sumI_append] at h2
      refine ⟨?_, ?_, by simp⟩
      · intro x hx
        rcases List.mem_append.mp hx with hx | hx
        · exact h1 x (List.mem_append_left _ hx)
        · rw [List.mem_singleton.mp hx]
          have := h1 la (List.mem_append_right _ (.head _))
          omega
      · rw [sumI_append, e2]
        simp only [sumI_nil, sumI_cons] at h2 ⊢
        omega
theorem bit_high {b n : Nat} (h : b < 2 ^ n) : bitAt (b + 2 ^ n) n = true ∧ bitAt b n = false := by
  unfold bitAt
  constructor
  · rw [Nat.add_div_right _ (Nat.two_pow_pos n), Nat.div_eq_of_lt h]; rfl
  · rw [Nat.div_eq_of_lt h]; rfl
theorem bit_low {b n i : Nat} (h : i < n) : bitAt (b + 2 ^ n) i = bitAt b i := by
  obtain ⟨j, rfl⟩ : ∃ j, n = i + 1 + j := ⟨n - i - 1, by omega⟩
  unfold bitAt
  have e : 2 ^ (i + 1 + j) = 2 ^ i * (2 * 2 ^ j) := by rw [Nat.pow_add, Nat.pow_succ, Nat.mul_assoc]
  rw [e, Nat.add_mul_div_left _ _ (Nat.two_pow_pos i)]
  have : (b / 2 ^ i + 2 * 2 ^ j) % 2 = b / 2 ^ i % 2 := by rw [Nat.add_mul_mod_self_left]
  rw [this]
theorem sizes_low {b n : Nat} : ∀ k, k ≤ n → sizesOf (b + 2 ^ n) k = sizesOf b k
  | 0, _ => rfl
  | k + 1, h => by
    show stepS (sizesOf (b + 2 ^ n) k) (bitAt (b + 2 ^ n) k) = stepS (sizesOf b k) (bitAt b k)
    rw [sizes_low k (by omega), bit_low (by omega)]
theorem sizes_all : ∀ (n : Nat) (ss : List Int), (∀ x ∈ ss, 1 ≤ x) → sumI ss = (n : Int) + 1 → ∃ bits, bits < 2 ^ n ∧ sizesOf bits n = ss
  | 0, ss, hp, h => by
    refine ⟨0, by decide, ?_⟩
    cases ss with
    | nil => simp [sumI_nil, sumI_cons] at h
    | cons x l =>
      have h1 := hp x (.head _)
      have h2 := sumI_pos l fun y hy => hp y (.tail _ hy)
      have h3 : x + sumI l = 1 := h
      cases l with
      | nil =>
        simp only [sumI_nil, sumI_cons] at h3
        show [1] = [x]
        congr 1
        omega
      | cons y l =>
        have h4 := hp y (.tail _ (.head _))
        have h5 := sumI_pos l fun z hz => hp z (.tail _ (.tail _ hz))
        simp only [sumI_nil, sumI_cons] at h3
        omega
  | n + 1, ss, hp, h => by
    have e2 : ((n + 1 : Nat) : Int) = (n : Int) + 1 := by simp
    have hne : ss ≠ [] := fun z => by rw [z] at h; simp [sumI_nil, sumI_cons] at h; omega
    obtain ⟨ini, la, rfl⟩ : ∃ ini la, ss = ini ++ [la] := ⟨_, _, (List.dropLast_concat_getLast hne).symm⟩
    rw [sumI_append] at h
    have hla := hp la (List.mem_append_right _ (.head _))
    have hini : ∀ x ∈ ini, 1 ≤ x := fun x hx => hp x (List.mem_append_left _ hx)
    simp only [sumI_nil, sumI_cons] at h
    by_cases h1 : la = 1
    · obtain ⟨b, hb, hs⟩ := sizes_all n ini hini (by omega)
      refine ⟨b + 2 ^ n, by rw [Nat.pow_succ]; omega, ?_⟩
      show stepS (sizesOf (b + 2 ^ n) n) (bitAt (b + 2 ^ n) n) = _
      rw [sizes_low n (Nat.le_refl _), (bit_high hb).1, hs, h1]
      rfl
    · obtain ⟨b, hb, hs⟩ := sizes_all n (ini ++ [la - 1]) (fun x hx => by
        rcases List.mem_append.mp hx with hx | hx
        · exact hini x hx
        · rw [List.mem_singleton.mp hx]; omega) (by rw [sumI_append]; simp only [sumI_nil, sumI_cons]; omega)
      refine ⟨b, by rw [Nat.pow_succ]; omega, ?_⟩
      show stepS (sizesOf b n) (bitAt b n) = _
      rw [(bit_high hb).2, hs]
      show (ini ++ [la - 1]).dropLast ++ [(ini ++ [la - 1]).getLastD 0 + 1] = _
      rw [List.dropLast_concat, List.getLastD_concat]
      congr 2
      omega
/-- the rulers -/
noncomputable def ruler (T : List Nat) (bits : Nat) : List (List Nat) := cutBy (sizesOf bits (T.length - 1)) T
theorem ruler_flat {T : List Nat} (hT : 1 ≤ T.length) (bits : Nat) : (ruler T bits).flatten = T ∧ lens (ruler T bits) = sizesOf bits (T.length - 1) := by
  obtain ⟨h1, h2, _⟩ := sizes_ok bits (T.length - 1)
  exact cutBy_flat _ _ h1 (by omega)
theorem ruler_all {T : List Nat} (hT : 1 ≤ T.length) {gs : List (List Nat)} (h : gs.flatten = T) (hn : ∀ g ∈ gs, g ≠ []) : ∃ bits, bits < 2 ^ (T.length - 1) ∧ ruler T bits = gs := by
  have hl : ∀ gs : List (List Nat), sumI (lens gs) = gs.flatten.length := by
    intro gs
    induction gs with
    | nil => rfl
    | cons g gs ih => show (g.length : Int) + sumI (lens gs) = ((g ++ gs.flatten).length : Int); rw [ih, List.length_append]; omega
  obtain ⟨bits, h1, h2⟩ := sizes_all (T.length - 1) (lens gs) (fun x hx => by
    obtain ⟨g, hg, rfl⟩ := List.mem_map.mp hx
    have := List.length_pos_iff.mpr (hn g hg)
    omega) (by rw [hl, h]; omega)
  refine ⟨bits, h1, ?_⟩
  unfold ruler
  rw [h2, ← h]
  exact cutBy_lens gs
/-- the cheapest ruler -/
theorem cheap_is {W T : List Nat} (hT : 1 ≤ T.length) {t : Nat} (ht : 1 ≤ t) {M : Int}
    (h1 : ∃ bits, bits < 2 ^ (T.length - 1) ∧ (ruler T bits).length ≤ t ∧ M = sumD W (ruler T bits) + 2 * (W.length : Int) * ((t : Int) - (ruler T bits).length))
    (h2 : ∀ bits, bits < 2 ^ (T.length - 1) → (ruler T bits).length ≤ t → M ≤ sumD W (ruler T bits) + 2 * (W.length : Int) * ((t : Int) - (ruler T bits).length)) : M = f W T t := by
  apply Int.le_antisymm
  · obtain ⟨t', rfl⟩ : ∃ t', t = t' + 1 := ⟨t - 1, by omega⟩
    obtain ⟨vs, a1, a2, a3⟩ := split_all W t' T
    obtain ⟨gs, b1, b2, b3, b4⟩ := sum_filter W vs
    obtain ⟨bits, c1, c2⟩ := ruler_all hT (b2.trans a2) b1
    have := h2 bits c1 (by rw [c2]; omega)
    rw [c2] at this
    rw [a1] at b4
    omega
  · obtain ⟨bits, _, hl, rfl⟩ := h1
    have a1 := f_le_sum W (ruler T bits)
    rw [(ruler_flat hT bits).1] at a1
    obtain ⟨j, hj⟩ := Nat.le.dest hl
    have a2 := f_le_more W T (ruler T bits).length j
    rw [hj] at a2
    have e : ((t : Int) - (ruler T bits).length) = (j : Int) := by omega
    rw [e]
    omega
end Mine
end

section
namespace Mine
noncomputable def seg (T : List Nat) (i j : Nat) : List Nat := (T.drop i).take (j - i)
/-- the costs with a toll, place by place -/
noncomputable def IsDp (W T : List Nat) (tl : Int) (c : Nat → Int) (n : Nat) : Prop :=
  c 0 = 0 ∧ ∀ j, 1 ≤ j → j ≤ n → (∃ i, i < j ∧ c j = c i + D W (seg T i j) - tl) ∧ ∀ i, i < j → c j ≤ c i + D W (seg T i j) - tl
theorem take_seg {T : List Nat} {i j : Nat} (h : i ≤ j) : T.take i ++ seg T i j = T.take j := by
  unfold seg
  obtain ⟨k, rfl⟩ := Nat.le.dest h
  rw [Nat.add_sub_cancel_left, List.take_add]
theorem dp_low {W T : List Nat} {tl : Int} {c : Nat → Int} {n : Nat} (h : IsDp W T tl c n) : ∀ j, j ≤ n → ∃ k : Nat, f W (T.take j) k - tl * (k : Int) ≤ c j := by
  intro j
  induction j using Nat.strongRecOn with
  | ind j ih =>
    intro hj
    rcases Nat.eq_zero_or_pos j with rfl | hj1
    · refine ⟨0, ?_⟩
      rw [h.1]
      simp [f, rep_0, D_nil]
    · obtain ⟨i, hi, e⟩ := (h.2 j hj1 hj).1
      obtain ⟨k, hk⟩ := ih i hi (by exact om47 hj hi)
      refine ⟨k + 1, ?_⟩
      have a := D_concat W (seg T i j) (rep W k) (T.take i)
      rw [take_seg (Nat.le_of_lt hi), rep_snoc] at a
      unfold f at hk ⊢
      have e2 : ((k + 1 : Nat) : Int) = (k : Int) + 1 := by simp
      rw [e2, Int.mul_add, Int.mul_one]
      omega
theorem sumD_append (W : List Nat) (a b : List (List Nat)) : sumD W (a ++ b) = sumD W a + sumD W b := by
  induction a with
  | nil => simp [sumD_nil, sumD_cons]
  | cons g a ih => show D W g + sumD W (a ++ b) = D W g + sumD W a + sumD W b; rw [ih]; exact om46
theorem dp_up {W T : List Nat} {tl : Int} {c : Nat → Int} {n : Nat} (h : IsDp W T tl c n) : ∀ (m : Nat) (gs : List (List Nat)) (j : Nat), gs.length = m → (∀ g ∈ gs, g ≠ []) → j ≤ n → j ≤ T.length → gs.flatten = T.take j → c j ≤ sumD W gs - tl * (gs.length : Int) := by
  intro m
  induction m with
  | zero =>
    intro gs j hm _ hj hjT hf
    have : gs = [] := List.eq_nil_of_length_eq_zero hm
    subst this
    have h0 : j = 0 := by
      have := congrArg List.length hf
      simp only [List.flatten_nil, List.length_nil, List.length_take] at this
      omega
    subst h0
    rw [h.1]
    simp [sumD_nil, sumD_cons]
  | succ m ih =>
    intro gs j hm hn hj hjT hf
    have hne : gs ≠ [] := fun z => by rw [z] at hm; simp at hm
    obtain ⟨ini, g, rfl⟩ : ∃ ini g, gs = ini ++ [g] := ⟨_, _, (List.dropLast_concat_getLast hne).symm⟩
    have hg : 1 ≤ g.length := List.length_pos_iff.mpr (hn g (List.mem_append_right _ (.head _)))
    rw [List.flatten_append] at hf
    simp only [List.flatten_cons, List.flatten_nil, List.append_nil] at hf
    have hlen := congrArg List.length hf
    rw [List.length_append, List.length_take] at hlen
    have hi1 : ini.flatten.length < j := by omega
    have hini : ini.flatten = T.take ini.flatten.length := by
      have := congrArg (List.take ini.flatten.length) hf
      rw [List.take_left, List.take_take, Nat.min_eq_left (Nat.le_of_lt hi1)] at this
      exact this
    have hgs : g = seg T ini.flatten.length j := by
      have := take_seg (T := T) (Nat.le_of_lt hi1)
      rw [← hf, ← hini] at this
      exact (List.append_cancel_left this).symm
    have a := ih ini ini.flatten.length (by simp at hm; omega) (fun x hx => hn x (List.mem_append_left _ hx)) (by exact om47 hj hi1) (by exact om47 hjT hi1) hini
    have b := (h.2 j (by omega) hj).2 _ hi1
    rw [← hgs] at b
    rw [sumD_append, List.length_append]
    have e2 : ((ini.length + [g].length : Nat) : Int) = (ini.length : Int) + 1 := by simp
    rw [e2, Int.mul_add, Int.mul_one]
    show c j ≤ sumD W ini + (D W g + 0) - _
    exact om48 a b
theorem dear_le {W T : List Nat} {tl : Int} {c : Nat → Int} (h : IsDp W T tl c T.length) (htl : tl ≤ 2 * (W.length : Int)) {t : Nat} (ht : 1 ≤ t) : tl * (t : Int) + c T.length ≤ f W T t := by
  obtain ⟨t', rfl⟩ : ∃ t', t = t' + 1 := ⟨t - 1, by omega⟩
  obtain ⟨vs, a1, a2, a3⟩ := split_all W t' T
  obtain ⟨gs, b1, b2, b3, b4⟩ := sum_filter W vs
  have u := dp_up h gs.length gs T.length rfl b1 (Nat.le_refl _) (Nat.le_refl _) (by rw [b2, a2, List.take_length])
  rw [a1] at b4 b3
  obtain ⟨j, hj⟩ := Nat.le.dest b3
  have e : (((t' + 1 : Nat) : Int) - gs.length) = (j : Int) := by exact om49 a1 hj
  have e3 : ((t' + 1 : Nat) : Int) = (gs.length : Int) + (j : Int) := by exact om50 a1 hj
  rw [e] at b4
  rw [e3, Int.mul_add]
  have m : tl * (j : Int) ≤ 2 * (W.length : Int) * (j : Int) := Int.mul_le_mul_of_nonneg_right htl (by omega)
  omega
theorem dear_ge {W T : List Nat} {t : Nat} {c : Nat → Int} (h : IsDp W T (f W T (t + 1) - f W T t) c T.length) : f W T t ≤ (f W T (t + 1) - f W T t) * (t : Int) + c T.length := by
  obtain ⟨k, hk⟩ := dp_low h T.length (Nat.le_refl _)
  rw [List.take_length] at hk
  have s := f_slope W T t k
  rw [Int.mul_sub] at s
  omega
theorem slope_in (W T : List Nat) (t : Nat) : -(2 * (W.length : Int)) ≤ f W T (t + 1) - f W T t ∧ f W T (t + 1) - f W T t ≤ 2 * (W.length : Int) := by
  have h1 := f_up W T t
  have h2 := f_down W T t
  constructor <;> omega
end Mine
end

section
namespace Mine
/-- what is asked of a row -/
noncomputable def RowOk (T : List Nat) (n bits : Nat) (k : Int) : Prop := gsplit (rowOf (sizesOf bits (n - 1)) k) n (n + 2) .start T [] = cutBy (sizesOf bits (n - 1)) T ∧ (∀ y ∈ rowOf (sizesOf bits (n - 1)) k, 0 ≤ y) ∧ (rowOf (sizesOf bits (n - 1)) k)[0]? ≠ some 0
theorem row3 (a b c : Nat) (bits : Nat) (hb : bits < 4) : RowOk [a, b, c] 3 bits 0 ∧ RowOk [a, b, c] 3 bits 1 ∧ RowOk [a, b, c] 3 bits 2 := by
  rcases Nat.lt_succ_iff_lt_or_eq.mp hb with hb | rfl
  rotate_left
  · exact ⟨⟨rfl, by decide, by decide⟩, ⟨rfl, by decide, by decide⟩, ⟨rfl, by decide, by decide⟩⟩
  rcases Nat.lt_succ_iff_lt_or_eq.mp hb with hb | rfl
  rotate_left
  · exact ⟨⟨rfl, by decide, by decide⟩, ⟨rfl, by decide, by decide⟩, ⟨rfl, by decide, by decide⟩⟩
  rcases Nat.lt_succ_iff_lt_or_eq.mp hb with hb | rfl
  rotate_left
  · exact ⟨⟨rfl, by decide, by decide⟩, ⟨rfl, by decide, by decide⟩, ⟨rfl, by decide, by decide⟩⟩
  rcases Nat.lt_succ_iff_lt_or_eq.mp hb with hb | rfl
  rotate_left
  · exact ⟨⟨rfl, by decide, by decide⟩, ⟨rfl, by decide, by decide⟩, ⟨rfl, by decide, by decide⟩⟩
  exact absurd hb (Nat.not_lt_zero _)
theorem row4 (a b c d : Nat) (bits : Nat) (hb : bits < 8) : RowOk [a, b, c, d] 4 bits 0 ∧ RowOk [a, b, c, d] 4 bits 1 ∧ RowOk [a, b, c, d] 4 bits 2 := by
  rcases Nat.lt_succ_iff_lt_or_eq.mp hb with hb | rfl
  rotate_left
  · exact ⟨⟨rfl, by decide, by decide⟩, ⟨rfl, by decide, by decide⟩, ⟨rfl, by decide, by decide⟩⟩
  rcases Nat.lt_succ_iff_lt_or_eq.mp hb with hb | rfl
  rotate_left
  · exact ⟨⟨rfl, by decide, by decide⟩, ⟨rfl, by decide, by decide⟩, ⟨rfl, by decide, by decide⟩⟩
  rcases Nat.lt_succ_iff_lt_or_eq.mp hb with hb | rfl
  rotate_left
  · exact ⟨⟨rfl, by decide, by decide⟩, ⟨rfl, by decide, by decide⟩, ⟨rfl, by decide, by decide⟩⟩
  rcases Nat.lt_succ_iff_lt_or_eq.mp hb with hb | rfl
  rotate_left
  · exact ⟨⟨rfl, by decide, by decide⟩, ⟨rfl, by decide, by decide⟩, ⟨rfl, by decide, by decide⟩⟩
  rcases Nat.lt_succ_iff_lt_or_eq.mp hb with hb | rfl
  rotate_left
  · exact ⟨⟨rfl, by decide, by decide⟩, ⟨rfl, by decide, by decide⟩, ⟨rfl, by decide, by decide⟩⟩
  rcases Nat.lt_succ_iff_lt_or_eq.mp hb with hb | rfl
  rotate_left
  · exact ⟨⟨rfl, by decide, by decide⟩, ⟨rfl, by decide, by decide⟩, ⟨rfl, by decide, by decide⟩⟩
  rcases Nat.lt_succ_iff_lt_or_eq.mp hb with hb | rfl
  rotate_left
  · exact ⟨⟨rfl, by decide, by decide⟩, ⟨rfl, by decide, by decide⟩, ⟨rfl, by decide, by decide⟩⟩
  rcases Nat.lt_succ_iff_lt_or_eq.mp hb with hb | rfl
  rotate_left
  · exact ⟨⟨rfl, by decide, by decide⟩, ⟨rfl, by decide, by decide⟩, ⟨rfl, by decide, by decide⟩⟩
  exact absurd hb (Nat.not_lt_zero _)
theorem row5 (a b c d e : Nat) (bits : Nat) (hb : bits < 16) : RowOk [a, b, c, d, e] 5 bits 0 ∧ RowOk [a, b, c, d, e] 5 bits 1 ∧ RowOk [a, b, c, d, e] 5 bits 2 := by
  rcases Nat.lt_succ_iff_lt_or_eq.mp hb with hb | rfl
  rotate_left
  · exact ⟨⟨rfl, by decide, by decide⟩, ⟨rfl, by decide, by decide⟩, ⟨rfl, by decide, by decide⟩⟩
  rcases Nat.lt_succ_iff_lt_or_eq.mp hb with hb | rfl
  rotate_left
  · exact ⟨⟨rfl, by decide, by decide⟩, ⟨rfl, by decide, by decide⟩, ⟨rfl, by decide, by decide⟩⟩
  rcases Nat.lt_succ_iff_lt_or_eq.mp hb with hb | rfl
  rotate_left
  · exact ⟨⟨rfl, by decide, by decide⟩, ⟨rfl, by decide, by decide⟩, ⟨rfl, by decide, by decide⟩⟩
  rcases Nat.lt_succ_iff_lt_or_eq.mp hb with hb | rfl
  rotate_left
  · exact ⟨⟨rfl, by decide, by decide⟩, ⟨rfl, by decide, by decide⟩, ⟨rfl, by decide, by decide⟩⟩
  rcases Nat.lt_succ_iff_lt_or_eq.mp hb with hb | rfl
  rotate_left
  · exact ⟨⟨rfl, by decide, by decide⟩, ⟨rfl, by decide, by decide⟩, ⟨rfl, by decide, by decide⟩⟩
  rcases Nat.lt_succ_iff_lt_or_eq.mp hb with hb | rfl
  rotate_left
  · exact ⟨⟨rfl, by decide, by decide⟩, ⟨rfl, by decide, by decide⟩, ⟨rfl, by decide, by decide⟩⟩
  rcases Nat.lt_succ_iff_lt_or_eq.mp hb with hb | rfl
  rotate_left
  · exact ⟨⟨rfl, by decide, by decide⟩, ⟨rfl, by decide, by decide⟩, ⟨rfl, by decide, by decide⟩⟩
  rcases Nat.lt_succ_iff_lt_or_eq.mp hb with hb | rfl
  rotate_left
  · exact ⟨⟨rfl, by decide, by decide⟩, ⟨rfl, by decide, by decide⟩, ⟨rfl, by decide, by decide⟩⟩
  rcases Nat.lt_succ_iff_lt_or_eq.mp hb with hb | rfl
  rotate_left
  · exact ⟨⟨rfl, by decide, by decide⟩, ⟨rfl, by decide, by decide⟩, ⟨rfl, by decide, by decide⟩⟩
  rcases Nat.lt_succ_iff_lt_or_eq.mp hb with hb | rfl
  rotate_left
  · exact ⟨⟨rfl, by decide, by decide⟩, ⟨rfl, by decide, by decide⟩, ⟨rfl, by decide, by decide⟩⟩
  rcases Nat.lt_succ_iff_lt_or_eq.mp hb with hb | rfl
  rotate_left
  · exact ⟨⟨rfl, by decide, by decide⟩, ⟨rfl, by decide, by decide⟩, ⟨rfl, by decide, by decide⟩⟩
  rcases Nat.lt_succ_iff_lt_or_eq.mp hb with hb | rfl
  rotate_left
  · exact ⟨⟨rfl, by decide, by decide⟩, ⟨rfl, by decide, by decide⟩, ⟨rfl, by decide, by decide⟩⟩
  rcases Nat.lt_succ_iff_lt_or_eq.mp hb with hb | rfl
  rotate_left
  · exact ⟨⟨rfl, by decide, by decide⟩, ⟨rfl, by decide, by decide⟩, ⟨rfl, by decide, by decide⟩⟩
  rcases Nat.lt_succ_iff_lt_or_eq.mp hb with hb | rfl
  rotate_left
  · exact ⟨⟨rfl, by decide, by decide⟩, ⟨rfl, by decide, by decide⟩, ⟨rfl, by decide, by decide⟩⟩
  rcases Nat.lt_succ_iff_lt_or_eq.mp hb with hb | rfl
  rotate_left
  · exact ⟨⟨rfl, by decide, by decide⟩, ⟨rfl, by decide, by decide⟩, ⟨rfl, by decide, by decide⟩⟩
  rcases Nat.lt_succ_iff_lt_or_eq.mp hb with hb | rfl
  rotate_left
  · exact ⟨⟨rfl, by decide, by decide⟩, ⟨rfl, by decide, by decide⟩, ⟨rfl, by decide, by decide⟩⟩
  exact absurd hb (Nat.not_lt_zero _)
theorem rowOk {T : List Nat} (h3 : 3 ≤ T.length) (h5 : T.length ≤ 5) {bits : Nat} (hb : bits < 2 ^ (T.length - 1)) {k : Int} (hk0 : 0 ≤ k) (hk3 : k < 3) :
    gsplit (rowOf (sizesOf bits (T.length - 1)) k) T.length (T.length + 2) .start T [] = ruler T bits ∧ (∀ y ∈ rowOf (sizesOf bits (T.length - 1)) k, 0 ≤ y) ∧ (rowOf (sizesOf bits (T.length - 1)) k)[0]? ≠ some 0 := by
  have hk : k = 0 ∨ k = 1 ∨ k = 2 := on_lt3i hk0 hk3
  have all : RowOk T T.length bits 0 ∧ RowOk T T.length bits 1 ∧ RowOk T T.length bits 2 := by
    match T, h3, h5, hb with
    | [a, b, c], _, _, hb => exact row3 a b c bits hb
    | [a, b, c, d], _, _, hb => exact row4 a b c d bits hb
    | [a, b, c, d, e], _, _, hb => exact row5 a b c d e bits hb
    | [], h, _, _ => simp at h
    | [_], h, _, _ => simp at h
    | [_, _], h, _, _ => simp at h
    | _ :: _ :: _ :: _ :: _ :: _ :: _, _, h, _ => simp at h
  rcases hk with rfl | rfl | rfl
  · exact all.1
  · exact all.2.1
  · exact all.2.2
end Mine
end

section
namespace Mine
theorem look_first (j : Str) (v : Int) : ∀ c : List (Str × Int), (c.any fun p => decide (p.1 = j)) = true → (((c.map fun p => if decide (p.1 = j) then (p.1, v) else p).find? fun p => decide (p.1 = j)).map (·.2)).getD 0 = v := by
  intro c
  induction c with
  | nil => intro h; cases h
  | cons p c ih =>
    intro h
    rw [List.map_cons, List.find?_cons]
    by_cases h1 : p.1 = j
    · simp [h1]
    · have h2 : (c.any fun p => decide (p.1 = j)) = true := by simpa [h1] using h
      rw [if_neg (by simpa using h1)]
      simp only [h1, decide_false]
      exact ih h2
theorem look_put (c : List (Str × Int)) (k j : Str) (v : Int) : kdpLook (kdpPut c k v) j 0 = if j = k then v else kdpLook c j 0 := by
  unfold kdpLook kdpPut
  by_cases hc : (c.any fun p => decide (p.1 = k)) = true
  · rw [if_pos hc]
    by_cases hj : j = k
    · subst hj
      rw [if_pos rfl]
      exact look_first j v c hc
    · rw [if_neg hj]
      congr 2
      clear hc
      induction c with
      | nil => rfl
      | cons p c ih =>
        rw [List.map_cons, List.find?_cons, List.find?_cons]
        by_cases h1 : p.1 = k
        · rw [if_pos (decide_eq_true h1)]
          have h2 : ¬ p.1 = j := fun e => hj (e.symm.trans h1)
          simp only [h2, decide_false]
          exact ih
        · rw [if_neg (by simpa using h1)]
          by_cases h2 : p.1 = j
          · simp [h2]
          · simp only [h2, decide_false]
            exact ih
  · rw [if_neg hc]
    rw [List.find?_append]
    by_cases hj : j = k
    · subst hj
      have h0 : (c.find? fun p => decide (p.1 = j)) = none := by
        rw [List.find?_eq_none]
        intro p hp h
        exact hc (List.any_eq_true.mpr ⟨p, hp, h⟩)
      simp [h0]
    · have : ¬ k = j := fun e => hj e.symm
      simp [hj, this]
noncomputable def TDict (w : World) (o : Obj) (c : List (Str × Int)) : Prop := ∃ kvs, o.IsDictOf (PySem.strKind Challenge.rw_ph0059_01.row.prog w) kvs ∧ PyProof.V.FlatPairs PyData.str kvs (kdpD c)
/-- what the table tells is so -/
noncomputable def Tells' (W : List Nat) (c : List (Str × Int)) : Prop := ∀ x, kdpHas c x = true → kdpLook c x 0 = D W (ls x)
/-- a def that hands back a new table -/
noncomputable def SpT (w : World) (mean : ExcName → Option Value) (mg mb : Str → Option Value) (f : Addr) (dd uu : Nat) (vs : List Value) (W : List Nat) (x : Str) : Prop :=
  ∀ (news : List (Addr × Obj)) (dp un : Nat) (gd : Option (List Code)) (cn : Str) (cs : Scope) (a : Addr) (ccd : Value) (cl : List (Str × Addr)) (outer : List Env) (A₀ : Around) (base h₀ : Heap) (L : Addr) (m : Str → Option Value) (s : Shared) (Q E : Value → Shared → Prop),
    Below A₀ base outer h₀ → Fr h₀ L s.heap m → (hd.heap_39 w.params).In h₀ → News h₀ L s.heap news → Top hd.view_39 (looseW hd.view_39 []) mean mg mb h₀ → cs.kind = .function →
    dp + dd < recursionLimit → un + uu < cLine →
    (∀ (d : Addr) (o : Obj) (c : List (Str × Int)) (h' : Heap) (tk' : Nat), Fr h₀ L h' m → News h₀ L h' ((d, o) :: news) → (∀ p ∈ news, p.1 < d) → (d == sysModules) = false → TDict w o c → Tells' W c → (∀ i j : Nat, i < j → j ≤ x.length → kdpHas c (Txt.slice x (some (i : Int)) (some (j : Int))) = true) → c.length ≤ 25 → Q (.ref d) { s with heap := h', toks := tk' }) →
    wpAny (model Challenge.rw_ph0059_01.row.prog w) (ktrTop dp un gd cn cs L a ccd cl outer) (call (.ref f) vs) Q E s
structure TdC where
  o : Obj
  c : List (Str × Int)
  u : Str → Option Value
theorem D_le_len (u v : List Nat) : D u v ≤ 2 * (u.length : Int) + 2 * (v.length : Int) := by
  have h := D_concat [] v u []
  rw [List.append_nil, List.nil_append, D_nil_r, D_nil] at h
  exact h
theorem fmod3 (a : Int) : 0 ≤ a.fmod 3 ∧ a.fmod 3 < 3 := by
  rw [Int.fmod_eq_emod_of_nonneg _ (by decide)]
  omega
theorem least_specD (w : World) (mean : ExcName → Option Value) (mg mb : Str → Option Value) (x : Str) (tx : Tok) (y : Str) (ty : Tok) (hx : x.length ≤ 2) (hy : y.length ≤ 5) (ax : Al x) (ay : Al y) :
    SpV w mean mg mb 77 4 32 [.str x tx, .str y ty] (fun t => .int (D (ls x) (ls y)) t) := by
  have h := least_spec w mean mg mb 2 x tx y ty hx (Nat.le_refl _) hy ax ay
  rw [least_D] at h
  exact h
theorem told_spec (w : World) (mean : ExcName → Option Value) (mg mb : Str → Option Value) (y : Str) (ty : Tok) (x : Str) (tx : Tok) (tot : Int) (tt : Tok) (hy : y.length = 2) (hx3 : 3 ≤ x.length) (hx : x.length ≤ 5) (ax : Al x) (ay : Al y) :
   SpT w mean mg mb 84 6 60 [.str y ty, .str x tx, .int tot tt] (ls y) x := by
  unfold SpT
  k_fill
  intro news dp un gd cn cs a ccd cl outer A₀ base h₀ L m s Q E hB hF hX hN hT hcs hdp hun hret
  refine wpAny_call ?_
  w_on
  k_dflt (refine' code_def (binds := [(Str.ofString "word", .str y ty), (Str.ofString "text", .str x tx), (Str.ofString "total", .int tot tt)]) ?k1 ?k2 ?k3 ?k4 ?k5 ?kA ?kF ?kK ?k6 ?k7 ?k8 ?k9 ?kB ?_ ?c2 ?c3 ?c4 ?c5)
  k_dflt (((case k1 | k2 | k3 | k4 | k5 => k_asm); (case kA | kF => exact rfl); (case kK => assumption); (case k6 | k7 => k_is); (case k8 => first | exact Mine.room_lt (by assumption) | ktr_room); (case k9 => exact BindsTo.of_eq rfl); (case c5 => decide); (case kB => exact locs rfl); (case c2 | c3 | c4 => exact rfl); k_whole))
  replace hdp := room hdp
  replace hun := room hun
  intro g' L' h' FG' F' N' B' X' T'
  (try dsimp only [List.reverse, List.reverseAux] at F' ⊢)
  k_fold
  (repeat' (first | (k_unfold; (try dsimp only)) | ((fail_if_success (with_reducible first | show wpAny _ _ (exec (Stmt.For _ _ _ _ _) _) _ _ _ | show wpAny _ _ (exec (Stmt.While _ _ _ _) _) _ _ _ | show wpAny _ _ (pyIter _) _ _ _ | show wpAny _ _ (call (Value.ref _) _ _) _ _ _ | show wpAny _ _ (eval (Expr.Subscript _ (Expr.Slice none (some (Expr.BoolOp _ _ _)) none _) _) _) _ _ _ | show wpAny _ _ (exec (Stmt.If _ [Stmt.Assign [Expr.Tuple _ _ _] _ _] _ _) _) _ _ _ | show wpAny _ _ (exec (Stmt.If (Expr.BoolOp _ _ _) [Stmt.Assign [Expr.Name _ _] (Expr.Subscript _ _ _) _] _ _) _) _ _ _)); walk1; (try dsimp only)) | ((fail_if_success (with_reducible first | show wpAny _ _ (exec (Stmt.For _ _ _ _ _) _) _ _ _ | show wpAny _ _ (exec (Stmt.While _ _ _ _) _) _ _ _ | show wpAny _ _ (pyIter _) _ _ _ | show wpAny _ _ (call (Value.ref _) _ _) _ _ _ | show wpAny _ _ (eval (Expr.Subscript _ (Expr.Slice none (some (Expr.BoolOp _ _ _)) none _) _) _) _ _ _ | show wpAny _ _ (exec (Stmt.If _ [Stmt.Assign [Expr.Tuple _ _ _] _ _] _ _) _) _ _ _ | show wpAny _ _ (exec (Stmt.If (Expr.BoolOp _ _ _) [Stmt.Assign [Expr.Name _ _] (Expr.Subscript _ _ _) _] _ _) _) _ _ _)); dsimp only; walk1) | (leave1; (try dsimp only)) | fail "no step"))
  refine owit_for ?_
  (repeat' (first | (k_unfold; (try dsimp only)) | ((fail_if_success (with_reducible first | show wpAny _ _ (exec (Stmt.For _ _ _ _ _) _) _ _ _ | show wpAny _ _ (exec (Stmt.While _ _ _ _) _) _ _ _ | show wpAny _ _ (pyIter _) _ _ _ | show wpAny _ _ (call (Value.ref _) _ _) _ _ _ | show wpAny _ _ (eval (Expr.Subscript _ (Expr.Slice none (some (Expr.BoolOp _ _ _)) none _) _) _) _ _ _ | show wpAny _ _ (exec (Stmt.If _ [Stmt.Assign [Expr.Tuple _ _ _] _ _] _ _) _) _ _ _ | show wpAny _ _ (exec (Stmt.If (Expr.BoolOp _ _ _) [Stmt.Assign [Expr.Name _ _] (Expr.Subscript _ _ _) _] _ _) _) _ _ _)); walk1; (try dsimp only)) | ((fail_if_success (with_reducible first | show wpAny _ _ (exec (Stmt.For _ _ _ _ _) _) _ _ _ | show wpAny _ _ (exec (Stmt.While _ _ _ _) _) _ _ _ | show wpAny _ _ (pyIter _) _ _ _ | show wpAny _ _ (call (Value.ref _) _ _) _ _ _ | show wpAny _ _ (eval (Expr.Subscript _ (Expr.Slice none (some (Expr.BoolOp _ _ _)) none _) _) _) _ _ _ | show wpAny _ _ (exec (Stmt.If _ [Stmt.Assign [Expr.Tuple _ _ _] _ _] _ _) _) _ _ _ | show wpAny _ _ (exec (Stmt.If (Expr.BoolOp _ _ _) [Stmt.Assign [Expr.Name _ _] (Expr.Subscript _ _ _) _] _ _) _) _ _ _)); dsimp only; walk1) | (leave1; (try dsimp only)) | fail "no step"))
  rename Fr _ _ _ _ => F1
  rename News _ _ _ _ => N1
  rename IsRange _ _ _ _ _ _ _ _ => rgX
  (try dsimp only at rgX)
  refine led_name N1 ?_
  intro d e
  subst e
  have hld : ∀ p ∈ news, p.1 < d := by assumption
  have hds : (d == sysModules) = false := by assumption
  have hnd : ∀ p ∈ news, p.1 ≠ d := ne_of_allLt hld
  obtain ⟨o₀, N2, hT0⟩ : ∃ o₀, News g' L' _ ((d, o₀) :: news) ∧ TDict w o₀ [] := ⟨_, N1, [], by assumption, by assumption⟩
  clear N1
  refine loop_range (σ := TdC) (n := x.length) (fun c => (d, c.o) :: news) (fun c z => if z = Str.ofString "told" then some (Value.ref d) else if z = Str.ofString "i" ∨ z = Str.ofString "j" ∨ z = Str.ofString "due" ∨ z = Str.ofString "answer" then c.u z else List.lookup z [(Str.ofString "total", Value.int tot tt), (Str.ofString "text", Value.str x tx), (Str.ofString "word", Value.str y ty)]) (fun _ => s.gens)
    (fun i c => TDict w c.o c.c ∧ Tells' (ls y) c.c ∧ (∀ i' j' : Nat, i' < i → i' < j' → j' ≤ x.length → kdpHas c.c (Txt.slice x (some (i' : Int)) (some (j' : Int))) = true) ∧ c.c.length ≤ 5 * i) ⟨o₀, [], fun _ => none⟩ rfl rgX (small_one (by omega) (by omega) (by omega) (by omega)) (by rw [rangeSize_nat]; congr 1) (by exact om51 hx3 hx) F1 ?qm N2 rfl ?qp ?qturn ?qdone
  case qm =>
    intro z
    (try dsimp only)
    split
    · rfl
    · split
      · rename_i e
        rcases e with rfl | rfl | rfl | rfl <;> rfl
      · rfl
  case qp => exact ⟨hT0, fun _ z => (by cases z), fun _ _ z => absurd z (Nat.not_lt_zero _), Nat.le_refl _⟩
  case qdone =>
    intro c h tk hP F3 N3
    obtain ⟨hp1, hp2, hp3, hp4⟩ := hP
    (repeat' (first | (k_unfold; (try dsimp only)) | ((fail_if_success (with_reducible first | show wpAny _ _ (exec (Stmt.For _ _ _ _ _) _) _ _ _ | show wpAny _ _ (exec (Stmt.While _ _ _ _) _) _ _ _ | show wpAny _ _ (pyIter _) _ _ _ | show wpAny _ _ (call (Value.ref _) _ _) _ _ _ | show wpAny _ _ (eval (Expr.Subscript _ (Expr.Slice none (some (Expr.BoolOp _ _ _)) none _) _) _) _ _ _ | show wpAny _ _ (exec (Stmt.If _ [Stmt.Assign [Expr.Tuple _ _ _] _ _] _ _) _) _ _ _ | show wpAny _ _ (exec (Stmt.If (Expr.BoolOp _ _ _) [Stmt.Assign [Expr.Name _ _] (Expr.Subscript _ _ _) _] _ _) _) _ _ _)); walk1; (try dsimp only)) | ((fail_if_success (with_reducible first | show wpAny _ _ (exec (Stmt.For _ _ _ _ _) _) _ _ _ | show wpAny _ _ (exec (Stmt.While _ _ _ _) _) _ _ _ | show wpAny _ _ (pyIter _) _ _ _ | show wpAny _ _ (call (Value.ref _) _ _) _ _ _ | show wpAny _ _ (eval (Expr.Subscript _ (Expr.Slice none (some (Expr.BoolOp _ _ _)) none _) _) _) _ _ _ | show wpAny _ _ (exec (Stmt.If _ [Stmt.Assign [Expr.Tuple _ _ _] _ _] _ _) _) _ _ _ | show wpAny _ _ (exec (Stmt.If (Expr.BoolOp _ _ _) [Stmt.Assign [Expr.Name _ _] (Expr.Subscript _ _ _) _] _ _) _) _ _ _)); dsimp only; walk1) | (leave1; (try dsimp only)) | fail "no step"))
    exact hret _ _ c.c _ _ (by assumption) (by assumption) hld hds hp1 hp2 (fun i j h1 h2 => hp3 i j (by omega) h1 h2) (by omega)
  case qturn =>
    intro i c t h tk I o hi hP hne F3 N3
    obtain ⟨hp1, hp2, hp3, hp4⟩ := hP
    (try dsimp only at F3 N3 ⊢)
    clear rgX F1 N2
    have hId : I ≠ d := fun z => hne _ (.head _) z.symm
    simp only [Int.zero_add]
    (repeat' (first | (k_unfold; (try dsimp only)) | ((fail_if_success (with_reducible first | show wpAny _ _ (exec (Stmt.For _ _ _ _ _) _) _ _ _ | show wpAny _ _ (exec (Stmt.While _ _ _ _) _) _ _ _ | show wpAny _ _ (pyIter _) _ _ _ | show wpAny _ _ (call (Value.ref _) _ _) _ _ _ | show wpAny _ _ (eval (Expr.Subscript _ (Expr.Slice none (some (Expr.BoolOp _ _ _)) none _) _) _) _ _ _ | show wpAny _ _ (exec (Stmt.If _ [Stmt.Assign [Expr.Tuple _ _ _] _ _] _ _) _) _ _ _ | show wpAny _ _ (exec (Stmt.If (Expr.BoolOp _ _ _) [Stmt.Assign [Expr.Name _ _] (Expr.Subscript _ _ _) _] _ _) _) _ _ _)); walk1; (try dsimp only)) | ((fail_if_success (with_reducible first | show wpAny _ _ (exec (Stmt.For _ _ _ _ _) _) _ _ _ | show wpAny _ _ (exec (Stmt.While _ _ _ _) _) _ _ _ | show wpAny _ _ (pyIter _) _ _ _ | show wpAny _ _ (call (Value.ref _) _ _) _ _ _ | show wpAny _ _ (eval (Expr.Subscript _ (Expr.Slice none (some (Expr.BoolOp _ _ _)) none _) _) _) _ _ _ | show wpAny _ _ (exec (Stmt.If _ [Stmt.Assign [Expr.Tuple _ _ _] _ _] _ _) _) _ _ _ | show wpAny _ _ (exec (Stmt.If (Expr.BoolOp _ _ _) [Stmt.Assign [Expr.Name _ _] (Expr.Subscript _ _ _) _] _ _) _) _ _ _)); dsimp only; walk1) | (leave1; (try dsimp only)) | fail "no step"))
    refine owit_for ?_
    (repeat' (first | (k_unfold; (try dsimp only)) | ((fail_if_success (with_reducible first | show wpAny _ _ (exec (Stmt.For _ _ _ _ _) _) _ _ _ | show wpAny _ _ (exec (Stmt.While _ _ _ _) _) _ _ _ | show wpAny _ _ (pyIter _) _ _ _ | show wpAny _ _ (call (Value.ref _) _ _) _ _ _ | show wpAny _ _ (eval (Expr.Subscript _ (Expr.Slice none (some (Expr.BoolOp _ _ _)) none _) _) _) _ _ _ | show wpAny _ _ (exec (Stmt.If _ [Stmt.Assign [Expr.Tuple _ _ _] _ _] _ _) _) _ _ _ | show wpAny _ _ (exec (Stmt.If (Expr.BoolOp _ _ _) [Stmt.Assign [Expr.Name _ _] (Expr.Subscript _ _ _) _] _ _) _) _ _ _)); walk1; (try dsimp only)) | ((fail_if_success (with_reducible first | show wpAny _ _ (exec (Stmt.For _ _ _ _ _) _) _ _ _ | show wpAny _ _ (exec (Stmt.While _ _ _ _) _) _ _ _ | show wpAny _ _ (pyIter _) _ _ _ | show wpAny _ _ (call (Value.ref _) _ _) _ _ _ | show wpAny _ _ (eval (Expr.Subscript _ (Expr.Slice none (some (Expr.BoolOp _ _ _)) none _) _) _) _ _ _ | show wpAny _ _ (exec (Stmt.If _ [Stmt.Assign [Expr.Tuple _ _ _] _ _] _ _) _) _ _ _ | show wpAny _ _ (exec (Stmt.If (Expr.BoolOp _ _ _) [Stmt.Assign [Expr.Name _ _] (Expr.Subscript _ _ _) _] _ _) _) _ _ _)); dsimp only; walk1) | (leave1; (try dsimp only)) | fail "no step"))
    rename Fr _ _ _ _ => F4
    rename News _ _ _ _ => N4
    rename IsRange _ _ _ _ _ _ _ _ => rgY
    (try dsimp only at rgY)
    have N5 : News g' L' _ ((d, c.o) :: (I, o) :: news) := fun p hp => N4 p (by
      rcases List.mem_cons.mp hp with rfl | hp
      · exact .tail _ (.head _)
      · rcases List.mem_cons.mp hp with rfl | hp
        · exact .head _
        · exact .tail _ (.tail _ hp))
    clear N4
    refine loop_range (σ := TdC) (n := x.length - i) (fun c => (d, c.o) :: (I, o) :: news) (fun c z => if z = Str.ofString "i" then some (Value.int (i : Int) t) else if z = Str.ofString "told" then some (Value.ref d) else if z = Str.ofString "j" ∨ z = Str.ofString "due" ∨ z = Str.ofString "answer" then c.u z else List.lookup z [(Str.ofString "total", Value.int tot tt), (Str.ofString "text", Value.str x tx), (Str.ofString "word", Value.str y ty)]) (fun _ => s.gens)
      (fun jj c2 => TDict w c2.o c2.c ∧ Tells' (ls y) c2.c ∧ (∀ i' j' : Nat, i' < i → i' < j' → j' ≤ x.length → kdpHas c2.c (Txt.slice x (some (i' : Int)) (some (j' : Int))) = true) ∧ (∀ j' : Nat, i < j' → j' < i + 1 + jj → kdpHas c2.c (Txt.slice x (some (i : Int)) (some (j' : Int))) = true) ∧ c2.c.length ≤ 5 * i + jj) ⟨c.o, c.c, c.u⟩ rfl rgY (small_one (by omega) (by omega) (by exact om52 hx3 hx) (by exact om53 hx3 hx)) (by rw [rangeSize_nat]; congr 1; rw [Int.add_sub_add_right]; exact Int.toNat_sub _ _) (by omega) F4 ?rm N5 rfl ?rp ?rturn ?rdone
    case rm =>
      intro z
      (try dsimp only)
      split
      · rfl
      · split
        · rfl
        · split
          · rename_i h1 h2 h3
            rw [if_pos (Or.inr h3)]
          · rename_i h1 h2 h3
            rw [if_neg (fun q => q.elim h1 h3)]
    case rp => exact ⟨hp1, hp2, hp3, fun j' h1 h2 => absurd h2 (by omega), hp4⟩
    case rdone =>
      intro c2 h2 tk2 hP F6 N6
      obtain ⟨hq1, hq2, hq3, hq4, hq5⟩ := hP
      (repeat' (first | (k_unfold; (try dsimp only)) | ((fail_if_success (with_reducible first | show wpAny _ _ (exec (Stmt.For _ _ _ _ _) _) _ _ _ | show wpAny _ _ (exec (Stmt.While _ _ _ _) _) _ _ _ | show wpAny _ _ (pyIter _) _ _ _ | show wpAny _ _ (call (Value.ref _) _ _) _ _ _ | show wpAny _ _ (eval (Expr.Subscript _ (Expr.Slice none (some (Expr.BoolOp _ _ _)) none _) _) _) _ _ _ | show wpAny _ _ (exec (Stmt.If _ [Stmt.Assign [Expr.Tuple _ _ _] _ _] _ _) _) _ _ _ | show wpAny _ _ (exec (Stmt.If (Expr.BoolOp _ _ _) [Stmt.Assign [Expr.Name _ _] (Expr.Subscript _ _ _) _] _ _) _) _ _ _)); walk1; (try dsimp only)) | ((fail_if_success (with_reducible first | show wpAny _ _ (exec (Stmt.For _ _ _ _ _) _) _ _ _ | show wpAny _ _ (exec (Stmt.While _ _ _ _) _) _ _ _ | show wpAny _ _ (pyIter _) _ _ _ | show wpAny _ _ (call (Value.ref _) _ _) _ _ _ | show wpAny _ _ (eval (Expr.Subscript _ (Expr.Slice none (some (Expr.BoolOp _ _ _)) none _) _) _) _ _ _ | show wpAny _ _ (exec (Stmt.If _ [Stmt.Assign [Expr.Tuple _ _ _] _ _] _ _) _) _ _ _ | show wpAny _ _ (exec (Stmt.If (Expr.BoolOp _ _ _) [Stmt.Assign [Expr.Name _ _] (Expr.Subscript _ _ _) _] _ _) _) _ _ _)); dsimp only; walk1) | (leave1; (try dsimp only)) | fail "no step"))
      rename Fr _ _ _ _ => F7
      rename News _ _ _ _ => N7
      refine ⟨⟨c2.o, c2.c, fun z => if z = Str.ofString "i" then some (Value.int (i : Int) t) else c2.u z⟩, _, _, _, _, rfl, F7, ?_, N7, ?_, .tail _ (.head _), ?_, ⟨hq1, hq2, ?_, ?_⟩⟩
      · intro z
        (try dsimp only)
        by_cases h1 : z = Str.ofString "i"
        · subst h1; rfl
        · by_cases h2 : z = Str.ofString "told"
          · subst h2; rfl
          · simp [h1, h2]
      · exact List.forall_mem_cons.mpr ⟨.head _, fun p hp => .tail _ (.tail _ hp)⟩
      · exact List.forall_mem_cons.mpr ⟨hId.symm, fun p hp => hne p (.tail _ hp)⟩
      · intro i' j' h1 h2 h3
        rcases Nat.lt_or_ge i' i with h4 | h4
        · exact hq3 i' j' h4 h2 h3
        · have : i' = i := by omega
          subst this
          exact hq4 j' h2 (by omega)
      · (try dsimp only); omega
    case rturn =>
      intro jj c2 t2 h2 tk2 I2 o2 hj hP hne2 F6 N6
      obtain ⟨hq1, hq2, hq3, hq4, hq5⟩ := hP
      (try dsimp only at F6 N6 ⊢)
      have hI2d : I2 ≠ d := fun z => hne2 _ (.head _) z.symm
      have e0 : (i : Int) = (i : Int) := by omega
      have e1 : ((i : Int) + 1 + (jj : Int)) = ((i + 1 + jj : Nat) : Int) := by omega
      have hsl : ls (Txt.slice x (some (i : Int)) (some ((i : Int) + 1 + (jj : Int)))) = ((ls x).drop i).take (1 + jj) := by
        rw [ls_ss (by exact om30) (by exact om54) (by exact om55 hi hj)]
        have e2 : (i : Int).toNat = i := by exact om56
        have e3 : ((i : Int) + 1 + (jj : Int) - (i : Int)).toNat = 1 + jj := by omega
        rw [e2, e3]
      have hsn : (Txt.slice x (some (i : Int)) (some ((i : Int) + 1 + (jj : Int)))).length ≤ 5 := by
        rw [← ls_len, hsl, List.length_take]; omega
      have hsa : Al (Txt.slice x (some (i : Int)) (some ((i : Int) + 1 + (jj : Int)))) := ax.ss (by exact om30) (by exact om54) (by exact om55 hi hj)
      (repeat' (first | (k_unfold; (try dsimp only)) | ((fail_if_success (with_reducible first | show wpAny _ _ (exec (Stmt.For _ _ _ _ _) _) _ _ _ | show wpAny _ _ (exec (Stmt.While _ _ _ _) _) _ _ _ | show wpAny _ _ (pyIter _) _ _ _ | show wpAny _ _ (call (Value.ref _) _ _) _ _ _ | show wpAny _ _ (eval (Expr.Subscript _ (Expr.Slice none (some (Expr.BoolOp _ _ _)) none _) _) _) _ _ _ | show wpAny _ _ (exec (Stmt.If _ [Stmt.Assign [Expr.Tuple _ _ _] _ _] _ _) _) _ _ _ | show wpAny _ _ (exec (Stmt.If (Expr.BoolOp _ _ _) [Stmt.Assign [Expr.Name _ _] (Expr.Subscript _ _ _) _] _ _) _) _ _ _)); walk1; (try dsimp only)) | ((fail_if_success (with_reducible first | show wpAny _ _ (exec (Stmt.For _ _ _ _ _) _) _ _ _ | show wpAny _ _ (exec (Stmt.While _ _ _ _) _) _ _ _ | show wpAny _ _ (pyIter _) _ _ _ | show wpAny _ _ (call (Value.ref _) _ _) _ _ _ | show wpAny _ _ (eval (Expr.Subscript _ (Expr.Slice none (some (Expr.BoolOp _ _ _)) none _) _) _) _ _ _ | show wpAny _ _ (exec (Stmt.If _ [Stmt.Assign [Expr.Tuple _ _ _] _ _] _ _) _) _ _ _ | show wpAny _ _ (exec (Stmt.If (Expr.BoolOp _ _ _) [Stmt.Assign [Expr.Name _ _] (Expr.Subscript _ _ _) _] _ _) _) _ _ _)); dsimp only; walk1) | (leave1; (try dsimp only)) | fail "no step"))
      k_dflt (refine' SpV.use (least_specD _ _ _ _ _ _ _ _ (by omega) hsn ay hsa) ?k1 ?k2 ?k3 ?k4 ?k5 ?kK ?kd ?ku ?_)
      (((((case k1 | k2 | k3 | k4 | k5 => k_asm); (case kK => first | exact rfl | assumption); (case kd => first | exact Mine.room_up (by assumption) (by first | decide | omega) | exact Mine.room_0 (by assumption) (by first | decide | omega) | ktr_room); (case ku => first | exact Mine.room_up (by assumption) (by first | decide | omega) | exact Mine.room_0 (by assumption) (by first | decide | omega) | ktr_units))); intro t9 h9 tk9 F9 N9; (try dsimp only); (try k_fold)))
      (repeat' (first | (k_unfold; (try dsimp only)) | ((fail_if_success (with_reducible first | show wpAny _ _ (exec (Stmt.For _ _ _ _ _) _) _ _ _ | show wpAny _ _ (exec (Stmt.While _ _ _ _) _) _ _ _ | show wpAny _ _ (pyIter _) _ _ _ | show wpAny _ _ (call (Value.ref _) _ _) _ _ _ | show wpAny _ _ (eval (Expr.Subscript _ (Expr.Slice none (some (Expr.BoolOp _ _ _)) none _) _) _) _ _ _ | show wpAny _ _ (exec (Stmt.If _ [Stmt.Assign [Expr.Tuple _ _ _] _ _] _ _) _) _ _ _ | show wpAny _ _ (exec (Stmt.If (Expr.BoolOp _ _ _) [Stmt.Assign [Expr.Name _ _] (Expr.Subscript _ _ _) _] _ _) _) _ _ _)); walk1; (try dsimp only)) | ((fail_if_success (with_reducible first | show wpAny _ _ (exec (Stmt.For _ _ _ _ _) _) _ _ _ | show wpAny _ _ (exec (Stmt.While _ _ _ _) _) _ _ _ | show wpAny _ _ (pyIter _) _ _ _ | show wpAny _ _ (call (Value.ref _) _ _) _ _ _ | show wpAny _ _ (eval (Expr.Subscript _ (Expr.Slice none (some (Expr.BoolOp _ _ _)) none _) _) _) _ _ _ | show wpAny _ _ (exec (Stmt.If _ [Stmt.Assign [Expr.Tuple _ _ _] _ _] _ _) _) _ _ _ | show wpAny _ _ (exec (Stmt.If (Expr.BoolOp _ _ _) [Stmt.Assign [Expr.Name _ _] (Expr.Subscript _ _ _) _] _ _) _) _ _ _)); dsimp only; walk1) | (leave1; (try dsimp only)) | fail "no step"))
      have hf3 := fmod3 (tot + (i : Int) + ((i : Int) + 1 + (jj : Int)))
      have hDl := D_le_len (ls y) (ls (Txt.slice x (some (i : Int)) (some ((i : Int) + 1 + (jj : Int)))))
      rw [ls_len, ls_len] at hDl
      k_dflt (refine' SpV.use (lev_spec _ _ _ _ _ _ _ _ _ _ (by omega) (by omega) ay hsa (by exact om57 hf3) (by exact om58 hy hsn hf3 hDl)) ?k1 ?k2 ?k3 ?k4 ?k5 ?kK ?kd ?ku ?_)
      (((((case k1 | k2 | k3 | k4 | k5 => k_asm); (case kK => first | exact rfl | assumption); (case kd => first | exact Mine.room_up (by assumption) (by first | decide | omega) | exact Mine.room_0 (by assumption) (by first | decide | omega) | ktr_room); (case ku => first | exact Mine.room_up (by assumption) (by first | decide | omega) | exact Mine.room_0 (by assumption) (by first | decide | omega) | ktr_units))); intro t9 h9 tk9 F9 N9; (try dsimp only); (try k_fold)))
      (repeat' (first | (k_unfold; (try dsimp only)) | ((fail_if_success (with_reducible first | show wpAny _ _ (exec (Stmt.For _ _ _ _ _) _) _ _ _ | show wpAny _ _ (exec (Stmt.While _ _ _ _) _) _ _ _ | show wpAny _ _ (pyIter _) _ _ _ | show wpAny _ _ (call (Value.ref _) _ _) _ _ _ | show wpAny _ _ (eval (Expr.Subscript _ (Expr.Slice none (some (Expr.BoolOp _ _ _)) none _) _) _) _ _ _ | show wpAny _ _ (exec (Stmt.If _ [Stmt.Assign [Expr.Tuple _ _ _] _ _] _ _) _) _ _ _ | show wpAny _ _ (exec (Stmt.If (Expr.BoolOp _ _ _) [Stmt.Assign [Expr.Name _ _] (Expr.Subscript _ _ _) _] _ _) _) _ _ _)); walk1; (try dsimp only)) | ((fail_if_success (with_reducible first | show wpAny _ _ (exec (Stmt.For _ _ _ _ _) _) _ _ _ | show wpAny _ _ (exec (Stmt.While _ _ _ _) _) _ _ _ | show wpAny _ _ (pyIter _) _ _ _ | show wpAny _ _ (call (Value.ref _) _ _) _ _ _ | show wpAny _ _ (eval (Expr.Subscript _ (Expr.Slice none (some (Expr.BoolOp _ _ _)) none _) _) _) _ _ _ | show wpAny _ _ (exec (Stmt.If _ [Stmt.Assign [Expr.Tuple _ _ _] _ _] _ _) _) _ _ _ | show wpAny _ _ (exec (Stmt.If (Expr.BoolOp _ _ _) [Stmt.Assign [Expr.Name _ _] (Expr.Subscript _ _ _) _] _ _) _) _ _ _)); dsimp only; walk1) | (leave1; (try dsimp only)) | fail "no step"))
      · exact absurd rfl (by assumption)
      rename Fr _ _ _ _ => F7
      rename News _ _ _ _ => N7
      obtain ⟨kvs7, hd7, hf7⟩ := hq1
      refine kdp_setItem F7 N7 (UpdF.tail hI2d (UpdF.head ?hall)) hd7 hf7 (by omega) ?_
      case hall =>
        intro p hp
        rcases List.mem_cons.mp hp with rfl | hp
        · exact hId
        · exact hnd p hp
      intro h8 o8 kvs8 F8 N8 hd8 hf8
      clear F7 N7
      (repeat' (first | (k_unfold; (try dsimp only)) | ((fail_if_success (with_reducible first | show wpAny _ _ (exec (Stmt.For _ _ _ _ _) _) _ _ _ | show wpAny _ _ (exec (Stmt.While _ _ _ _) _) _ _ _ | show wpAny _ _ (pyIter _) _ _ _ | show wpAny _ _ (call (Value.ref _) _ _) _ _ _ | show wpAny _ _ (eval (Expr.Subscript _ (Expr.Slice none (some (Expr.BoolOp _ _ _)) none _) _) _) _ _ _ | show wpAny _ _ (exec (Stmt.If _ [Stmt.Assign [Expr.Tuple _ _ _] _ _] _ _) _) _ _ _ | show wpAny _ _ (exec (Stmt.If (Expr.BoolOp _ _ _) [Stmt.Assign [Expr.Name _ _] (Expr.Subscript _ _ _) _] _ _) _) _ _ _)); walk1; (try dsimp only)) | ((fail_if_success (with_reducible first | show wpAny _ _ (exec (Stmt.For _ _ _ _ _) _) _ _ _ | show wpAny _ _ (exec (Stmt.While _ _ _ _) _) _ _ _ | show wpAny _ _ (pyIter _) _ _ _ | show wpAny _ _ (call (Value.ref _) _ _) _ _ _ | show wpAny _ _ (eval (Expr.Subscript _ (Expr.Slice none (some (Expr.BoolOp _ _ _)) none _) _) _) _ _ _ | show wpAny _ _ (exec (Stmt.If _ [Stmt.Assign [Expr.Tuple _ _ _] _ _] _ _) _) _ _ _ | show wpAny _ _ (exec (Stmt.If (Expr.BoolOp _ _ _) [Stmt.Assign [Expr.Name _ _] (Expr.Subscript _ _ _) _] _ _) _) _ _ _)); dsimp only; walk1) | (leave1; (try dsimp only)) | fail "no step"))
      have hkey : Txt.slice x (some (i : Int)) (some ((i : Int) + 1 + (jj : Int))) = Txt.slice x (some (i : Int)) (some ((i + 1 + jj : Nat) : Int)) := by rw [← e1]
      obtain ⟨m8, F9, ta, tb, hm8⟩ : ∃ m8, Fr g' L' h8 m8 ∧ ∃ ta tb, ∀ z, m8 z = if z = Str.ofString "answer" then some (Value.int (D (ls y) (ls (Txt.slice x (some (i : Int)) (some ((i : Int) + 1 + (jj : Int)))))) ta) else if z = Str.ofString "due" then some (Value.int (D (ls y) (ls (Txt.slice x (some (i : Int)) (some ((i : Int) + 1 + (jj : Int)))))) tb) else if z = Str.ofString "j" then some (Value.int ((i : Int) + 1 + (jj : Int)) t2) else if z = Str.ofString "i" then some (Value.int (i : Int) t) else if z = Str.ofString "told" then some (Value.ref d) else if z = Str.ofString "j" ∨ z = Str.ofString "due" ∨ z = Str.ofString "answer" then c2.u z else List.lookup z [(Str.ofString "total", Value.int tot tt), (Str.ofString "text", Value.str x tx), (Str.ofString "word", Value.str y ty)] := ⟨_, F8, _, _, fun _ => rfl⟩
      refine ⟨⟨o8, kdpPut c2.c (Txt.slice x (some (i : Int)) (some ((i : Int) + 1 + (jj : Int)))) (D (ls y) (ls (Txt.slice x (some (i : Int)) (some ((i : Int) + 1 + (jj : Int)))))), m8⟩, _, _, _, _, rfl, F9, ?_, N8, ?_, .head _, ?_, ⟨⟨_, hd8, hf8⟩, ?_, ?_, ?_, ?_⟩⟩
      · intro z
        (try dsimp only)
        rw [hm8]
        by_cases h1 : z = Str.ofString "i"
        · subst h1; rfl
        · by_cases h2 : z = Str.ofString "told"
          · subst h2; rfl
          · by_cases h3 : z = Str.ofString "answer"
            · subst h3; rfl
            · by_cases h4 : z = Str.ofString "due"
              · subst h4; rfl
              · by_cases h5 : z = Str.ofString "j"
                · subst h5; rfl
                · simp [h1, h2, h3, h4, h5]
      · exact List.forall_mem_cons.mpr ⟨.tail _ (.head _), fun p hp => .tail _ (.tail _ hp)⟩
      · exact List.forall_mem_cons.mpr ⟨hI2d.symm, fun p hp => hne2 p (.tail _ hp)⟩
      · intro z hz
        rw [look_put]
        by_cases h1 : z = Txt.slice x (some (i : Int)) (some ((i : Int) + 1 + (jj : Int)))
        · rw [if_pos h1, h1]
        · rw [if_neg h1]
          rw [kdpHas_put, decide_eq_false h1, Bool.false_or] at hz
          exact hq2 z hz
      · intro i' j' h1 h2 h3
        rw [kdpHas_put, hq3 i' j' h1 h2 h3, Bool.or_true]
      · intro j' h1 h2
        rw [kdpHas_put]
        by_cases h3 : j' = i + 1 + jj
        · subst h3; rw [hkey, decide_eq_true rfl, Bool.true_or]
        · rw [hq4 j' h1 (by omega), Bool.or_true]
      · have := kdpPut_len c2.c (Txt.slice x (some (i : Int)) (some ((i : Int) + 1 + (jj : Int)))) (D (ls y) (ls (Txt.slice x (some (i : Int)) (some ((i : Int) + 1 + (jj : Int))))))
        (try dsimp only)
        omega
end Mine
end


section
namespace Mine
/-- a def whose value is told by R -/
noncomputable def SpP (w : World) (mean : ExcName → Option Value) (mg mb : Str → Option Value) (f : Addr) (dd uu : Nat) (Pre : List (Addr × Obj) → Prop) (vs : List Value) (R : Value → Prop) : Prop :=
  ∀ (news : List (Addr × Obj)) (dp un : Nat) (gd : Option (List Code)) (cn : Str) (cs : Scope) (a : Addr) (ccd : Value) (cl : List (Str × Addr)) (outer : List Env) (A₀ : Around) (base h₀ : Heap) (L : Addr) (m : Str → Option Value) (s : Shared) (Q E : Value → Shared → Prop),
    Below A₀ base outer h₀ → Fr h₀ L s.heap m → (hd.heap_39 w.params).In h₀ → News h₀ L s.heap news → Top hd.view_39 (looseW hd.view_39 []) mean mg mb h₀ → cs.kind = .function →
    dp + dd < recursionLimit → un + uu < cLine → Pre news →
    (∀ (v : Value) (h' : Heap) (tk' : Nat), R v → Fr h₀ L h' m → News h₀ L h' news → Q v { s with heap := h', toks := tk' }) →
    wpAny (model Challenge.rw_ph0059_01.row.prog w) (ktrTop dp un gd cn cs L a ccd cl outer) (call (.ref f) vs) Q E s
theorem dp_snoc {W T : List Nat} {tl M : Int} {ns : List Int} {i : Nat} (hl : ns.length = i + 1) (h : IsDp W T tl (fun k => ns.getD k 0) i) (h1 : ∃ k, k ≤ i ∧ M = ns.getD k 0 + D W (seg T k (i + 1)) - tl)
    (h2 : ∀ k, k ≤ i → M ≤ ns.getD k 0 + D W (seg T k (i + 1)) - tl) : IsDp W T tl (fun k => (ns ++ [M]).getD k 0) (i + 1) := by
  have e1 : ∀ k, k ≤ i → (ns ++ [M]).getD k 0 = ns.getD k 0 := by
    intro k hk
    simp only [List.getD]
    rw [List.getElem?_append_left (by omega)]
  have e2 : (ns ++ [M]).getD (i + 1) 0 = M := by
    simp only [List.getD]
    rw [List.getElem?_append_right (by omega), hl]
    simp
  refine ⟨?_, fun j hj1 hj2 => ?_⟩
  · (try dsimp only)
    rw [e1 0 (by omega)]
    exact h.1
  · (try dsimp only)
    rcases Nat.lt_or_ge i j with hij | hij
    · have : j = i + 1 := by omega
      subst this
      rw [e2]
      refine ⟨?_, fun k hk => ?_⟩
      · obtain ⟨k, hk, hM⟩ := h1
        exact ⟨k, by omega, by rw [e1 k hk]; exact hM⟩
      · rw [e1 k (by omega)]
        exact h2 k (by omega)
    · obtain ⟨⟨k, hk, ha⟩, hb⟩ := h.2 j hj1 hij
      (try dsimp only at ha hb)
      rw [e1 j hij]
      refine ⟨⟨k, hk, by rw [e1 k (by omega)]; exact ha⟩, fun k hk => ?_⟩
      rw [e1 k (by omega)]
      exact hb k hk
structure TlC where
  vs : List Value
  ns : List Int
  e : Nat
  oj : Obj
theorem toll_spec (w : World) (mean : ExcName → Option Value) (mg mb : Str → Option Value) (d : Addr) (o : Obj) (c : List (Str × Int)) (W : List Nat) (x : Str) (tx : Tok) (tl : Int) (tt : Tok)
    (hx3 : 3 ≤ x.length) (hx : x.length ≤ 5) (hTD : TDict w o c) (hTells : Tells' W c) (hhas : ∀ i j : Nat, i < j → j ≤ x.length → kdpHas c (Txt.slice x (some (i : Int)) (some (j : Int))) = true) (hds : (d == sysModules) = false) :
   SpP w mean mg mb 89 1 10 (fun news => (d, o) ∈ news) [.ref d, .str x tx, .int tl tt] (fun v => ∃ (cc : Nat → Int) (t : Tok), IsDp W (ls x) tl cc x.length ∧ v = .int (cc x.length) t) := by
  unfold SpP
  k_fill
  intro news dp un gd cn cs a ccd cl outer A₀ base h₀ L m s Q E hB hF hX hN hT hcs hdp hun hpre hret
  refine wpAny_call ?_
  w_on
  k_dflt (refine' code_defC (binds := [(Str.ofString "told", .ref d), (Str.ofString "text", .str x tx), (Str.ofString "toll", .int tl tt)]) ?k1 ?k2 ?k3 ?k4 ?k5 ?kA ?kF ?kK ?k6 ?k7 ?k8 ?k9 ?kB ?kD ?_ ?c2 ?c3 ?c4)
  (case k1 => k_asm); (case k2 => k_asm); (case k3 => k_asm); (case k4 => k_asm); (case k5 => k_asm); (case kA => exact rfl); (case kF => exact rfl); (case kK => assumption); (case k6 => k_is); (case k7 => k_is); (case k8 => first | exact Mine.room_lt (by assumption) | ktr_room); (case k9 => exact BindsTo.of_eq rfl); (case kB => exact rfl); (case kD => decide +kernel); (case c2 => exact rfl); (case c3 => exact rfl); (case c4 => exact rfl)
  k_whole
  intro g' L' h' tk' cells' FG' F' N' Y' B' X' T' l1
  (try k_lt l1)
  obtain ⟨oo1, oo2, oo3, oo4, oo5, hE', d1', d2', d3', d4', d5'⟩ := kc_five Y'
  subst hE'
  clear Y'
  have e1' : oo1.data = .cell none := d1'
  have e2' : oo2.data = .cell none := d2'
  have e3' : oo3.data = .cell (some (.int tl tt)) := d3'
  have e4' : oo4.data = .cell (some (.str x tx)) := d4'
  have e5' : oo5.data = .cell (some (.ref d)) := d5'
  clear d1' d2' d3' d4' d5'
  have n1' : ∀ p ∈ news, p.1 ≠ L' + 1 + 1 + 1 + 1 + 1 := fun p hp => Nat.ne_of_lt (Nat.lt_of_lt_of_le (l1 p hp) (by omega))
  have n2' : ∀ p ∈ news, p.1 ≠ L' + 1 + 1 + 1 + 1 := fun p hp => Nat.ne_of_lt (Nat.lt_of_lt_of_le (l1 p hp) (by omega))
  (try simp only [List.cons_append, List.nil_append] at N')
  (try dsimp only)
  (try k_fold)
  (repeat' (first | (k_unfold; (try dsimp only)) | ((((fail_if_success (with_reducible first | show wpAny _ _ (exec (Stmt.For _ _ _ _ _) _) _ _ _ | show wpAny _ _ (exec (Stmt.While _ _ _ _) _) _ _ _ | show wpAny _ _ (pyIter _) _ _ _ | show wpAny _ _ (call (Value.ref _) _ _) _ _ _ | show wpAny _ _ (eval (Expr.Subscript _ (Expr.Slice none (some (Expr.BoolOp _ _ _)) none _) _) _) _ _ _ | show wpAny _ _ (exec (Stmt.If _ [Stmt.Assign [Expr.Tuple _ _ _] _ _] _ _) _) _ _ _ | show wpAny _ _ (exec (Stmt.If (Expr.BoolOp _ _ _) [Stmt.Assign [Expr.Name _ _] (Expr.Subscript _ _ _) _] _ _) _) _ _ _)); fail_if_success (with_reducible first | show wpAny _ _ (eval (Expr.ListComp _ _ _ _) _) _ _ _ | show wpAny _ _ (exec (Stmt.Assign _ (Expr.ListComp _ _ _ _) _) _) _ _ _ | show LCg.CompSrc _ _ _ _ _ _ _ _ _ _ _ _ _ _ | show LCg.CompEnd _ _ _ _ _ _ _ _ _ _ _ _ _ _ | show wpAny _ _ (call (Value.builtin "max") _) _ _ _ | show LCp.SrcLP _ _ _ _ _ _ _ _ _ _ _ _ _ _ _))); walk1; (try dsimp only)) | ((((fail_if_success (with_reducible first | show wpAny _ _ (exec (Stmt.For _ _ _ _ _) _) _ _ _ | show wpAny _ _ (exec (Stmt.While _ _ _ _) _) _ _ _ | show wpAny _ _ (pyIter _) _ _ _ | show wpAny _ _ (call (Value.ref _) _ _) _ _ _ | show wpAny _ _ (eval (Expr.Subscript _ (Expr.Slice none (some (Expr.BoolOp _ _ _)) none _) _) _) _ _ _ | show wpAny _ _ (exec (Stmt.If _ [Stmt.Assign [Expr.Tuple _ _ _] _ _] _ _) _) _ _ _ | show wpAny _ _ (exec (Stmt.If (Expr.BoolOp _ _ _) [Stmt.Assign [Expr.Name _ _] (Expr.Subscript _ _ _) _] _ _) _) _ _ _)); fail_if_success (with_reducible first | show wpAny _ _ (eval (Expr.ListComp _ _ _ _) _) _ _ _ | show wpAny _ _ (exec (Stmt.Assign _ (Expr.ListComp _ _ _ _) _) _) _ _ _ | show LCg.CompSrc _ _ _ _ _ _ _ _ _ _ _ _ _ _ | show LCg.CompEnd _ _ _ _ _ _ _ _ _ _ _ _ _ _ | show wpAny _ _ (call (Value.builtin "max") _) _ _ _ | show LCp.SrcLP _ _ _ _ _ _ _ _ _ _ _ _ _ _ _))); dsimp only; walk1) | (leave1; (try dsimp only)) | fail "no step"))
  refine owit_for ?_
  (repeat' (first | (k_unfold; (try dsimp only)) | ((((fail_if_success (with_reducible first | show wpAny _ _ (exec (Stmt.For _ _ _ _ _) _) _ _ _ | show wpAny _ _ (exec (Stmt.While _ _ _ _) _) _ _ _ | show wpAny _ _ (pyIter _) _ _ _ | show wpAny _ _ (call (Value.ref _) _ _) _ _ _ | show wpAny _ _ (eval (Expr.Subscript _ (Expr.Slice none (some (Expr.BoolOp _ _ _)) none _) _) _) _ _ _ | show wpAny _ _ (exec (Stmt.If _ [Stmt.Assign [Expr.Tuple _ _ _] _ _] _ _) _) _ _ _ | show wpAny _ _ (exec (Stmt.If (Expr.BoolOp _ _ _) [Stmt.Assign [Expr.Name _ _] (Expr.Subscript _ _ _) _] _ _) _) _ _ _)); fail_if_success (with_reducible first | show wpAny _ _ (eval (Expr.ListComp _ _ _ _) _) _ _ _ | show wpAny _ _ (exec (Stmt.Assign _ (Expr.ListComp _ _ _ _) _) _) _ _ _ | show LCg.CompSrc _ _ _ _ _ _ _ _ _ _ _ _ _ _ | show LCg.CompEnd _ _ _ _ _ _ _ _ _ _ _ _ _ _ | show wpAny _ _ (call (Value.builtin "max") _) _ _ _ | show LCp.SrcLP _ _ _ _ _ _ _ _ _ _ _ _ _ _ _))); walk1; (try dsimp only)) | ((((fail_if_success (with_reducible first | show wpAny _ _ (exec (Stmt.For _ _ _ _ _) _) _ _ _ | show wpAny _ _ (exec (Stmt.While _ _ _ _) _) _ _ _ | show wpAny _ _ (pyIter _) _ _ _ | show wpAny _ _ (call (Value.ref _) _ _) _ _ _ | show wpAny _ _ (eval (Expr.Subscript _ (Expr.Slice none (some (Expr.BoolOp _ _ _)) none _) _) _) _ _ _ | show wpAny _ _ (exec (Stmt.If _ [Stmt.Assign [Expr.Tuple _ _ _] _ _] _ _) _) _ _ _ | show wpAny _ _ (exec (Stmt.If (Expr.BoolOp _ _ _) [Stmt.Assign [Expr.Name _ _] (Expr.Subscript _ _ _) _] _ _) _) _ _ _)); fail_if_success (with_reducible first | show wpAny _ _ (eval (Expr.ListComp _ _ _ _) _) _ _ _ | show wpAny _ _ (exec (Stmt.Assign _ (Expr.ListComp _ _ _ _) _) _) _ _ _ | show LCg.CompSrc _ _ _ _ _ _ _ _ _ _ _ _ _ _ | show LCg.CompEnd _ _ _ _ _ _ _ _ _ _ _ _ _ _ | show wpAny _ _ (call (Value.builtin "max") _) _ _ _ | show LCp.SrcLP _ _ _ _ _ _ _ _ _ _ _ _ _ _ _))); dsimp only; walk1) | (leave1; (try dsimp only)) | fail "no step"))
  rename Fr _ _ _ _ => F1
  rename News _ _ _ _ => N1
  rename IsRange _ _ _ _ _ _ _ _ => rgX
  (try dsimp only at rgX)
  refine led_name N1 ?_
  intro ll e
  subst e
  obtain ⟨oc, hoc, N2⟩ : ∃ oc : Obj, oc.data = .cell (some (Value.ref ll)) ∧ News g' L' _ ((ll, PySem.W.listOf [Value.int 0 tk'].toArray 0) :: (L' + 1 + 1 + 1 + 1 + 1, oo1) :: (L' + 1 + 1 + 1 + 1, oc) :: (L' + 1 + 1 + 1, oo3) :: (L' + 1 + 1, oo4) :: (L' + 1, oo5) :: news) := ⟨_, by assumption, N1⟩
  clear N1
  rename (_ < ll ∧ _) => l2
  have hll : ∀ p ∈ news, p.1 < ll := fun p hp => Nat.lt_trans (l1 p hp) (by omega)
  have hlln := ne_of_allLt hll
  refine loop_range (σ := TlC) (n := x.length) (fun c => (ll, PySem.W.listOf c.vs.toArray c.e) :: (L' + 1 + 1 + 1 + 1 + 1, c.oj) :: (L' + 1 + 1 + 1 + 1, oc) :: (L' + 1 + 1 + 1, oo3) :: (L' + 1 + 1, oo4) :: (L' + 1, oo5) :: news) (fun _ _ => none) (fun _ => s.gens)
    (fun i c => IntsAre c.vs c.ns ∧ c.ns.length = i + 1 ∧ IsDp W (ls x) tl (fun k => c.ns.getD k 0) i ∧ ∃ v0, c.oj.data = .cell v0) ⟨_, [0], 0, oo1⟩ rfl rgX (small_one (by omega) (by omega) (by exact om52 hx3 hx) (by exact om53 hx3 hx)) (by rw [rangeSize_nat]; congr 1; omega) (by exact om51 hx3 hx) F1 (fun _ => rfl) N2 rfl ?qp ?qturn ?qdone
  case qp => exact ⟨IntsAre.cons _ _ IntsAre.nil, rfl, ⟨rfl, fun j h1 h2 => absurd h1 (by omega)⟩, _, e1'⟩
  case qdone =>
    intro c2 h tk hP F3 N3
    obtain ⟨hp1, hp2, hp3, _⟩ := hP
    (try dsimp only at F3 N3 ⊢)
    (repeat' (first | (k_unfold; (try dsimp only)) | ((((fail_if_success (with_reducible first | show wpAny _ _ (exec (Stmt.For _ _ _ _ _) _) _ _ _ | show wpAny _ _ (exec (Stmt.While _ _ _ _) _) _ _ _ | show wpAny _ _ (pyIter _) _ _ _ | show wpAny _ _ (call (Value.ref _) _ _) _ _ _ | show wpAny _ _ (eval (Expr.Subscript _ (Expr.Slice none (some (Expr.BoolOp _ _ _)) none _) _) _) _ _ _ | show wpAny _ _ (exec (Stmt.If _ [Stmt.Assign [Expr.Tuple _ _ _] _ _] _ _) _) _ _ _ | show wpAny _ _ (exec (Stmt.If (Expr.BoolOp _ _ _) [Stmt.Assign [Expr.Name _ _] (Expr.Subscript _ _ _) _] _ _) _) _ _ _)); fail_if_success (with_reducible first | show wpAny _ _ (eval (Expr.ListComp _ _ _ _) _) _ _ _ | show wpAny _ _ (exec (Stmt.Assign _ (Expr.ListComp _ _ _ _) _) _) _ _ _ | show LCg.CompSrc _ _ _ _ _ _ _ _ _ _ _ _ _ _ | show LCg.CompEnd _ _ _ _ _ _ _ _ _ _ _ _ _ _ | show wpAny _ _ (call (Value.builtin "max") _) _ _ _ | show LCp.SrcLP _ _ _ _ _ _ _ _ _ _ _ _ _ _ _))); walk1; (try dsimp only)) | ((((fail_if_success (with_reducible first | show wpAny _ _ (exec (Stmt.For _ _ _ _ _) _) _ _ _ | show wpAny _ _ (exec (Stmt.While _ _ _ _) _) _ _ _ | show wpAny _ _ (pyIter _) _ _ _ | show wpAny _ _ (call (Value.ref _) _ _) _ _ _ | show wpAny _ _ (eval (Expr.Subscript _ (Expr.Slice none (some (Expr.BoolOp _ _ _)) none _) _) _) _ _ _ | show wpAny _ _ (exec (Stmt.If _ [Stmt.Assign [Expr.Tuple _ _ _] _ _] _ _) _) _ _ _ | show wpAny _ _ (exec (Stmt.If (Expr.BoolOp _ _ _) [Stmt.Assign [Expr.Name _ _] (Expr.Subscript _ _ _) _] _ _) _) _ _ _)); fail_if_success (with_reducible first | show wpAny _ _ (eval (Expr.ListComp _ _ _ _) _) _ _ _ | show wpAny _ _ (exec (Stmt.Assign _ (Expr.ListComp _ _ _ _) _) _) _ _ _ | show LCg.CompSrc _ _ _ _ _ _ _ _ _ _ _ _ _ _ | show LCg.CompEnd _ _ _ _ _ _ _ _ _ _ _ _ _ _ | show wpAny _ _ (call (Value.builtin "max") _) _ _ _ | show LCp.SrcLP _ _ _ _ _ _ _ _ _ _ _ _ _ _ _))); dsimp only; walk1) | (leave1; (try dsimp only)) | fail "no step"))
    rename News h₀ _ _ (_ :: _) => kN
    have e9 : (-1 + (c2.ns.length : Int)).toNat = x.length := by omega
    rw [e9]
    refine hret _ _ _ ⟨fun k => c2.ns.getD k 0, _, hp3, rfl⟩ (by assumption) (fun p hp => ?_)
    have z : News h₀ L h _ := kN
    exact z p (.tail _ (.tail _ (.tail _ (.tail _ (.tail _ (.tail _ hp))))))
  case qturn =>
    intro i c2 t h tk I oI hi hP hne F3 N3
    obtain ⟨hp1, hp2, hp3, v0, hp4⟩ := hP
    have hI0 : I ≠ ll := fun z => hne _ (.head _) z.symm
    have hI1 : I ≠ L' + 1 + 1 + 1 + 1 + 1 := fun z => hne _ (.tail _ (.head _)) z.symm
    have hI2 : I ≠ L' + 1 + 1 + 1 + 1 := fun z => hne _ (.tail _ (.tail _ (.head _))) z.symm
    have hI3 : I ≠ L' + 1 + 1 + 1 := fun z => hne _ (.tail _ (.tail _ (.tail _ (.head _)))) z.symm
    have hI4 : I ≠ L' + 1 + 1 := fun z => hne _ (.tail _ (.tail _ (.tail _ (.tail _ (.head _))))) z.symm
    have hI5 : I ≠ L' + 1 := fun z => hne _ (.tail _ (.tail _ (.tail _ (.tail _ (.tail _ (.head _)))))) z.symm
    (try dsimp only at F3 N3 ⊢)
    (repeat' (first | (k_unfold; (try dsimp only)) | ((((fail_if_success (with_reducible first | show wpAny _ _ (exec (Stmt.For _ _ _ _ _) _) _ _ _ | show wpAny _ _ (exec (Stmt.While _ _ _ _) _) _ _ _ | show wpAny _ _ (pyIter _) _ _ _ | show wpAny _ _ (call (Value.ref _) _ _) _ _ _ | show wpAny _ _ (eval (Expr.Subscript _ (Expr.Slice none (some (Expr.BoolOp _ _ _)) none _) _) _) _ _ _ | show wpAny _ _ (exec (Stmt.If _ [Stmt.Assign [Expr.Tuple _ _ _] _ _] _ _) _) _ _ _ | show wpAny _ _ (exec (Stmt.If (Expr.BoolOp _ _ _) [Stmt.Assign [Expr.Name _ _] (Expr.Subscript _ _ _) _] _ _) _) _ _ _)); fail_if_success (with_reducible first | show wpAny _ _ (eval (Expr.ListComp _ _ _ _) _) _ _ _ | show wpAny _ _ (exec (Stmt.Assign _ (Expr.ListComp _ _ _ _) _) _) _ _ _ | show LCg.CompSrc _ _ _ _ _ _ _ _ _ _ _ _ _ _ | show LCg.CompEnd _ _ _ _ _ _ _ _ _ _ _ _ _ _ | show wpAny _ _ (call (Value.builtin "max") _) _ _ _ | show LCp.SrcLP _ _ _ _ _ _ _ _ _ _ _ _ _ _ _))); walk1; (try dsimp only)) | ((((fail_if_success (with_reducible first | show wpAny _ _ (exec (Stmt.For _ _ _ _ _) _) _ _ _ | show wpAny _ _ (exec (Stmt.While _ _ _ _) _) _ _ _ | show wpAny _ _ (pyIter _) _ _ _ | show wpAny _ _ (call (Value.ref _) _ _) _ _ _ | show wpAny _ _ (eval (Expr.Subscript _ (Expr.Slice none (some (Expr.BoolOp _ _ _)) none _) _) _) _ _ _ | show wpAny _ _ (exec (Stmt.If _ [Stmt.Assign [Expr.Tuple _ _ _] _ _] _ _) _) _ _ _ | show wpAny _ _ (exec (Stmt.If (Expr.BoolOp _ _ _) [Stmt.Assign [Expr.Name _ _] (Expr.Subscript _ _ _) _] _ _) _) _ _ _)); fail_if_success (with_reducible first | show wpAny _ _ (eval (Expr.ListComp _ _ _ _) _) _ _ _ | show wpAny _ _ (exec (Stmt.Assign _ (Expr.ListComp _ _ _ _) _) _) _ _ _ | show LCg.CompSrc _ _ _ _ _ _ _ _ _ _ _ _ _ _ | show LCg.CompEnd _ _ _ _ _ _ _ _ _ _ _ _ _ _ | show wpAny _ _ (call (Value.builtin "max") _) _ _ _ | show LCp.SrcLP _ _ _ _ _ _ _ _ _ _ _ _ _ _ _))); dsimp only; walk1) | (leave1; (try dsimp only)) | fail "no step"))
    k_dflt (refine LCg.ListComp_U (F₀ := by k_asm) (by with_unfolding_all rfl) (by decide) (by rfl) (by decide) (by rfl) ?_)
    (repeat' (first | (k_unfold; (try dsimp only)) | ((((fail_if_success (with_reducible first | show wpAny _ _ (exec (Stmt.For _ _ _ _ _) _) _ _ _ | show wpAny _ _ (exec (Stmt.While _ _ _ _) _) _ _ _ | show wpAny _ _ (pyIter _) _ _ _ | show wpAny _ _ (call (Value.ref _) _ _) _ _ _ | show wpAny _ _ (eval (Expr.Subscript _ (Expr.Slice none (some (Expr.BoolOp _ _ _)) none _) _) _) _ _ _ | show wpAny _ _ (exec (Stmt.If _ [Stmt.Assign [Expr.Tuple _ _ _] _ _] _ _) _) _ _ _ | show wpAny _ _ (exec (Stmt.If (Expr.BoolOp _ _ _) [Stmt.Assign [Expr.Name _ _] (Expr.Subscript _ _ _) _] _ _) _) _ _ _)); fail_if_success (with_reducible first | show wpAny _ _ (eval (Expr.ListComp _ _ _ _) _) _ _ _ | show wpAny _ _ (exec (Stmt.Assign _ (Expr.ListComp _ _ _ _) _) _) _ _ _ | show LCg.CompSrc _ _ _ _ _ _ _ _ _ _ _ _ _ _ | show LCg.CompEnd _ _ _ _ _ _ _ _ _ _ _ _ _ _ | show wpAny _ _ (call (Value.builtin "max") _) _ _ _ | show LCp.SrcLP _ _ _ _ _ _ _ _ _ _ _ _ _ _ _))); walk1; (try dsimp only)) | ((((fail_if_success (with_reducible first | show wpAny _ _ (exec (Stmt.For _ _ _ _ _) _) _ _ _ | show wpAny _ _ (exec (Stmt.While _ _ _ _) _) _ _ _ | show wpAny _ _ (pyIter _) _ _ _ | show wpAny _ _ (call (Value.ref _) _ _) _ _ _ | show wpAny _ _ (eval (Expr.Subscript _ (Expr.Slice none (some (Expr.BoolOp _ _ _)) none _) _) _) _ _ _ | show wpAny _ _ (exec (Stmt.If _ [Stmt.Assign [Expr.Tuple _ _ _] _ _] _ _) _) _ _ _ | show wpAny _ _ (exec (Stmt.If (Expr.BoolOp _ _ _) [Stmt.Assign [Expr.Name _ _] (Expr.Subscript _ _ _) _] _ _) _) _ _ _)); fail_if_success (with_reducible first | show wpAny _ _ (eval (Expr.ListComp _ _ _ _) _) _ _ _ | show wpAny _ _ (exec (Stmt.Assign _ (Expr.ListComp _ _ _ _) _) _) _ _ _ | show LCg.CompSrc _ _ _ _ _ _ _ _ _ _ _ _ _ _ | show LCg.CompEnd _ _ _ _ _ _ _ _ _ _ _ _ _ _ | show wpAny _ _ (call (Value.builtin "max") _) _ _ _ | show LCp.SrcLP _ _ _ _ _ _ _ _ _ _ _ _ _ _ _))); dsimp only; walk1) | (leave1; (try dsimp only)) | fail "no step"))
    rename Fr _ _ _ _ => F4
    rename News _ _ _ _ => N4
    rename IsRange _ _ _ _ _ _ _ _ => rgY
    clear rgX
    refine LCg.CompSrc.range (by rfl) F4 N4 rgY (small_one (by omega) (by omega) (by exact om59 hp2) (by omega)) (rangeSize_nat _ _) (by rw [sizeLine_eq]; omega) ?_
    intro g9
    refine kcf_range (fun k => c2.ns.getD k.toNat 0 + kdpLook c (Txt.slice x (some k) (some (1 + (i : Int)))) 0 - tl) (fun k' t' I' oI' C' oC' D' m' ys' h9 tk9 E9 hlo hhi hC hx F N off ne _ => ?_) ?_
    · clear F4 N4 rgY
      replace hhi : k' < 1 + (i : Int) := by exact om60 hp2 hhi ne
      have hkh : kdpHas c (Txt.slice x (some k') (some (1 + (i : Int)))) = true := by
        have := hhas k'.toNat (1 + i) (by omega) (by exact om61 hi hp2)
        rw [show ((k'.toNat : Nat) : Int) = k' by omega, show ((1 + i : Nat) : Int) = 1 + (i : Int) by exact om62] at this
        exact this
      (repeat' (first | (k_unfold; (try dsimp only)) | ((((fail_if_success (with_reducible first | show wpAny _ _ (exec (Stmt.For _ _ _ _ _) _) _ _ _ | show wpAny _ _ (exec (Stmt.While _ _ _ _) _) _ _ _ | show wpAny _ _ (pyIter _) _ _ _ | show wpAny _ _ (call (Value.ref _) _ _) _ _ _ | show wpAny _ _ (eval (Expr.Subscript _ (Expr.Slice none (some (Expr.BoolOp _ _ _)) none _) _) _) _ _ _ | show wpAny _ _ (exec (Stmt.If _ [Stmt.Assign [Expr.Tuple _ _ _] _ _] _ _) _) _ _ _ | show wpAny _ _ (exec (Stmt.If (Expr.BoolOp _ _ _) [Stmt.Assign [Expr.Name _ _] (Expr.Subscript _ _ _) _] _ _) _) _ _ _)); fail_if_success (with_reducible first | show wpAny _ _ (eval (Expr.ListComp _ _ _ _) _) _ _ _ | show wpAny _ _ (exec (Stmt.Assign _ (Expr.ListComp _ _ _ _) _) _) _ _ _ | show LCg.CompSrc _ _ _ _ _ _ _ _ _ _ _ _ _ _ | show LCg.CompEnd _ _ _ _ _ _ _ _ _ _ _ _ _ _ | show wpAny _ _ (call (Value.builtin "max") _) _ _ _ | show LCp.SrcLP _ _ _ _ _ _ _ _ _ _ _ _ _ _ _))); walk1; (try dsimp only)) | ((((fail_if_success (with_reducible first | show wpAny _ _ (exec (Stmt.For _ _ _ _ _) _) _ _ _ | show wpAny _ _ (exec (Stmt.While _ _ _ _) _) _ _ _ | show wpAny _ _ (pyIter _) _ _ _ | show wpAny _ _ (call (Value.ref _) _ _) _ _ _ | show wpAny _ _ (eval (Expr.Subscript _ (Expr.Slice none (some (Expr.BoolOp _ _ _)) none _) _) _) _ _ _ | show wpAny _ _ (exec (Stmt.If _ [Stmt.Assign [Expr.Tuple _ _ _] _ _] _ _) _) _ _ _ | show wpAny _ _ (exec (Stmt.If (Expr.BoolOp _ _ _) [Stmt.Assign [Expr.Name _ _] (Expr.Subscript _ _ _) _] _ _) _) _ _ _)); fail_if_success (with_reducible first | show wpAny _ _ (eval (Expr.ListComp _ _ _ _) _) _ _ _ | show wpAny _ _ (exec (Stmt.Assign _ (Expr.ListComp _ _ _ _) _) _) _ _ _ | show LCg.CompSrc _ _ _ _ _ _ _ _ _ _ _ _ _ _ | show LCg.CompEnd _ _ _ _ _ _ _ _ _ _ _ _ _ _ | show wpAny _ _ (call (Value.builtin "max") _) _ _ _ | show LCp.SrcLP _ _ _ _ _ _ _ _ _ _ _ _ _ _ _))); dsimp only; walk1) | (leave1; (try dsimp only)) | fail "no step"))
      obtain ⟨kvsT, hT1, hT2⟩ := hTD
      rename News _ _ _ _ => N7
      refine kdp_item (TabAt.ofNews N7 ?kmem hds hT1 hT2) hkh ?_
      case kmem =>
        exact .tail _ (.tail _ (.tail _ (.tail _ (.tail _ (.tail _ (.tail _ (.tail _ (.tail _ (.tail _ hpre)))))))))
      intro t8
      (repeat' (first | (k_unfold; (try dsimp only)) | ((((fail_if_success (with_reducible first | show wpAny _ _ (exec (Stmt.For _ _ _ _ _) _) _ _ _ | show wpAny _ _ (exec (Stmt.While _ _ _ _) _) _ _ _ | show wpAny _ _ (pyIter _) _ _ _ | show wpAny _ _ (call (Value.ref _) _ _) _ _ _ | show wpAny _ _ (eval (Expr.Subscript _ (Expr.Slice none (some (Expr.BoolOp _ _ _)) none _) _) _) _ _ _ | show wpAny _ _ (exec (Stmt.If _ [Stmt.Assign [Expr.Tuple _ _ _] _ _] _ _) _) _ _ _ | show wpAny _ _ (exec (Stmt.If (Expr.BoolOp _ _ _) [Stmt.Assign [Expr.Name _ _] (Expr.Subscript _ _ _) _] _ _) _) _ _ _)); fail_if_success (with_reducible first | show wpAny _ _ (eval (Expr.ListComp _ _ _ _) _) _ _ _ | show wpAny _ _ (exec (Stmt.Assign _ (Expr.ListComp _ _ _ _) _) _) _ _ _ | show LCg.CompSrc _ _ _ _ _ _ _ _ _ _ _ _ _ _ | show LCg.CompEnd _ _ _ _ _ _ _ _ _ _ _ _ _ _ | show wpAny _ _ (call (Value.builtin "max") _) _ _ _ | show LCp.SrcLP _ _ _ _ _ _ _ _ _ _ _ _ _ _ _))); walk1; (try dsimp only)) | ((((fail_if_success (with_reducible first | show wpAny _ _ (exec (Stmt.For _ _ _ _ _) _) _ _ _ | show wpAny _ _ (exec (Stmt.While _ _ _ _) _) _ _ _ | show wpAny _ _ (pyIter _) _ _ _ | show wpAny _ _ (call (Value.ref _) _ _) _ _ _ | show wpAny _ _ (eval (Expr.Subscript _ (Expr.Slice none (some (Expr.BoolOp _ _ _)) none _) _) _) _ _ _ | show wpAny _ _ (exec (Stmt.If _ [Stmt.Assign [Expr.Tuple _ _ _] _ _] _ _) _) _ _ _ | show wpAny _ _ (exec (Stmt.If (Expr.BoolOp _ _ _) [Stmt.Assign [Expr.Name _ _] (Expr.Subscript _ _ _) _] _ _) _) _ _ _)); fail_if_success (with_reducible first | show wpAny _ _ (eval (Expr.ListComp _ _ _ _) _) _ _ _ | show wpAny _ _ (exec (Stmt.Assign _ (Expr.ListComp _ _ _ _) _) _) _ _ _ | show LCg.CompSrc _ _ _ _ _ _ _ _ _ _ _ _ _ _ | show LCg.CompEnd _ _ _ _ _ _ _ _ _ _ _ _ _ _ | show wpAny _ _ (call (Value.builtin "max") _) _ _ _ | show LCp.SrcLP _ _ _ _ _ _ _ _ _ _ _ _ _ _ _))); dsimp only; walk1) | (leave1; (try dsimp only)) | fail "no step"))
      rename Fr _ _ _ _ => F8
      rename News _ _ _ _ => N8
      exact ⟨_, _, _, rfl, F8, N8, off, True.intro, kcf_el rfl rfl rfl⟩
    · intro ys hys
      unfold LCg.FinE
      intro D5 h5 tk5 F5 N5 off5
      (try simp only [LCg.Off1] at off5)
      (repeat' (first | (k_unfold; (try dsimp only)) | ((((fail_if_success (with_reducible first | show wpAny _ _ (exec (Stmt.For _ _ _ _ _) _) _ _ _ | show wpAny _ _ (exec (Stmt.While _ _ _ _) _) _ _ _ | show wpAny _ _ (pyIter _) _ _ _ | show wpAny _ _ (call (Value.ref _) _ _) _ _ _ | show wpAny _ _ (eval (Expr.Subscript _ (Expr.Slice none (some (Expr.BoolOp _ _ _)) none _) _) _) _ _ _ | show wpAny _ _ (exec (Stmt.If _ [Stmt.Assign [Expr.Tuple _ _ _] _ _] _ _) _) _ _ _ | show wpAny _ _ (exec (Stmt.If (Expr.BoolOp _ _ _) [Stmt.Assign [Expr.Name _ _] (Expr.Subscript _ _ _) _] _ _) _) _ _ _)); fail_if_success (with_reducible first | show wpAny _ _ (eval (Expr.ListComp _ _ _ _) _) _ _ _ | show wpAny _ _ (exec (Stmt.Assign _ (Expr.ListComp _ _ _ _) _) _) _ _ _ | show LCg.CompSrc _ _ _ _ _ _ _ _ _ _ _ _ _ _ | show LCg.CompEnd _ _ _ _ _ _ _ _ _ _ _ _ _ _ | show wpAny _ _ (call (Value.builtin "max") _) _ _ _ | show LCp.SrcLP _ _ _ _ _ _ _ _ _ _ _ _ _ _ _))); walk1; (try dsimp only)) | ((((fail_if_success (with_reducible first | show wpAny _ _ (exec (Stmt.For _ _ _ _ _) _) _ _ _ | show wpAny _ _ (exec (Stmt.While _ _ _ _) _) _ _ _ | show wpAny _ _ (pyIter _) _ _ _ | show wpAny _ _ (call (Value.ref _) _ _) _ _ _ | show wpAny _ _ (eval (Expr.Subscript _ (Expr.Slice none (some (Expr.BoolOp _ _ _)) none _) _) _) _ _ _ | show wpAny _ _ (exec (Stmt.If _ [Stmt.Assign [Expr.Tuple _ _ _] _ _] _ _) _) _ _ _ | show wpAny _ _ (exec (Stmt.If (Expr.BoolOp _ _ _) [Stmt.Assign [Expr.Name _ _] (Expr.Subscript _ _ _) _] _ _) _) _ _ _)); fail_if_success (with_reducible first | show wpAny _ _ (eval (Expr.ListComp _ _ _ _) _) _ _ _ | show wpAny _ _ (exec (Stmt.Assign _ (Expr.ListComp _ _ _ _) _) _) _ _ _ | show LCg.CompSrc _ _ _ _ _ _ _ _ _ _ _ _ _ _ | show LCg.CompEnd _ _ _ _ _ _ _ _ _ _ _ _ _ _ | show wpAny _ _ (call (Value.builtin "max") _) _ _ _ | show LCp.SrcLP _ _ _ _ _ _ _ _ _ _ _ _ _ _ _))); dsimp only; walk1) | (leave1; (try dsimp only)) | fail "no step"))
      refine min_list_N rfl F5 N5 (News.isList N5 (.head _)) hys (by rw [List.length_map, rangeKs_length]; exact om63 hp2) ?_
      intro h6 M t6 tk6 F6 N6 hM1 hM2
      clear F5 N5 F4 N4
      (repeat' (first | (k_unfold; (try dsimp only)) | ((((fail_if_success (with_reducible first | show wpAny _ _ (exec (Stmt.For _ _ _ _ _) _) _ _ _ | show wpAny _ _ (exec (Stmt.While _ _ _ _) _) _ _ _ | show wpAny _ _ (pyIter _) _ _ _ | show wpAny _ _ (call (Value.ref _) _ _) _ _ _ | show wpAny _ _ (eval (Expr.Subscript _ (Expr.Slice none (some (Expr.BoolOp _ _ _)) none _) _) _) _ _ _ | show wpAny _ _ (exec (Stmt.If _ [Stmt.Assign [Expr.Tuple _ _ _] _ _] _ _) _) _ _ _ | show wpAny _ _ (exec (Stmt.If (Expr.BoolOp _ _ _) [Stmt.Assign [Expr.Name _ _] (Expr.Subscript _ _ _) _] _ _) _) _ _ _)); fail_if_success (with_reducible first | show wpAny _ _ (eval (Expr.ListComp _ _ _ _) _) _ _ _ | show wpAny _ _ (exec (Stmt.Assign _ (Expr.ListComp _ _ _ _) _) _) _ _ _ | show LCg.CompSrc _ _ _ _ _ _ _ _ _ _ _ _ _ _ | show LCg.CompEnd _ _ _ _ _ _ _ _ _ _ _ _ _ _ | show wpAny _ _ (call (Value.builtin "max") _) _ _ _ | show LCp.SrcLP _ _ _ _ _ _ _ _ _ _ _ _ _ _ _))); walk1; (try dsimp only)) | ((((fail_if_success (with_reducible first | show wpAny _ _ (exec (Stmt.For _ _ _ _ _) _) _ _ _ | show wpAny _ _ (exec (Stmt.While _ _ _ _) _) _ _ _ | show wpAny _ _ (pyIter _) _ _ _ | show wpAny _ _ (call (Value.ref _) _ _) _ _ _ | show wpAny _ _ (eval (Expr.Subscript _ (Expr.Slice none (some (Expr.BoolOp _ _ _)) none _) _) _) _ _ _ | show wpAny _ _ (exec (Stmt.If _ [Stmt.Assign [Expr.Tuple _ _ _] _ _] _ _) _) _ _ _ | show wpAny _ _ (exec (Stmt.If (Expr.BoolOp _ _ _) [Stmt.Assign [Expr.Name _ _] (Expr.Subscript _ _ _) _] _ _) _) _ _ _)); fail_if_success (with_reducible first | show wpAny _ _ (eval (Expr.ListComp _ _ _ _) _) _ _ _ | show wpAny _ _ (exec (Stmt.Assign _ (Expr.ListComp _ _ _ _) _) _) _ _ _ | show LCg.CompSrc _ _ _ _ _ _ _ _ _ _ _ _ _ _ | show LCg.CompEnd _ _ _ _ _ _ _ _ _ _ _ _ _ _ | show wpAny _ _ (call (Value.builtin "max") _) _ _ _ | show LCp.SrcLP _ _ _ _ _ _ _ _ _ _ _ _ _ _ _))); dsimp only; walk1) | (leave1; (try dsimp only)) | fail "no step"))
      have hvl : c2.vs.length ≤ 6 := by have := hp1.length; omega
      refine append_K F6 N6 (Upd.tail (Ne.symm off5.2.1) (Upd.tail hI0 (Upd.head ?hup))) ?_ (by simp only [List.size_toArray]; rw [sizeLine_eq]; exact om27 hvl)
      case hup =>
        exact List.forall_mem_cons.mpr ⟨Nat.ne_of_lt l2.1, List.forall_mem_cons.mpr ⟨Nat.ne_of_lt l2.2.1, List.forall_mem_cons.mpr ⟨Nat.ne_of_lt l2.2.2.1, List.forall_mem_cons.mpr ⟨Nat.ne_of_lt l2.2.2.2.1, List.forall_mem_cons.mpr ⟨Nat.ne_of_lt l2.2.2.2.2.1, hlln⟩⟩⟩⟩⟩
      intro h8 F8 N8
      simp only [List.push_toArray] at N8
      clear F6 N6
      (repeat' (first | (k_unfold; (try dsimp only)) | ((((fail_if_success (with_reducible first | show wpAny _ _ (exec (Stmt.For _ _ _ _ _) _) _ _ _ | show wpAny _ _ (exec (Stmt.While _ _ _ _) _) _ _ _ | show wpAny _ _ (pyIter _) _ _ _ | show wpAny _ _ (call (Value.ref _) _ _) _ _ _ | show wpAny _ _ (eval (Expr.Subscript _ (Expr.Slice none (some (Expr.BoolOp _ _ _)) none _) _) _) _ _ _ | show wpAny _ _ (exec (Stmt.If _ [Stmt.Assign [Expr.Tuple _ _ _] _ _] _ _) _) _ _ _ | show wpAny _ _ (exec (Stmt.If (Expr.BoolOp _ _ _) [Stmt.Assign [Expr.Name _ _] (Expr.Subscript _ _ _) _] _ _) _) _ _ _)); fail_if_success (with_reducible first | show wpAny _ _ (eval (Expr.ListComp _ _ _ _) _) _ _ _ | show wpAny _ _ (exec (Stmt.Assign _ (Expr.ListComp _ _ _ _) _) _) _ _ _ | show LCg.CompSrc _ _ _ _ _ _ _ _ _ _ _ _ _ _ | show LCg.CompEnd _ _ _ _ _ _ _ _ _ _ _ _ _ _ | show wpAny _ _ (call (Value.builtin "max") _) _ _ _ | show LCp.SrcLP _ _ _ _ _ _ _ _ _ _ _ _ _ _ _))); walk1; (try dsimp only)) | ((((fail_if_success (with_reducible first | show wpAny _ _ (exec (Stmt.For _ _ _ _ _) _) _ _ _ | show wpAny _ _ (exec (Stmt.While _ _ _ _) _) _ _ _ | show wpAny _ _ (pyIter _) _ _ _ | show wpAny _ _ (call (Value.ref _) _ _) _ _ _ | show wpAny _ _ (eval (Expr.Subscript _ (Expr.Slice none (some (Expr.BoolOp _ _ _)) none _) _) _) _ _ _ | show wpAny _ _ (exec (Stmt.If _ [Stmt.Assign [Expr.Tuple _ _ _] _ _] _ _) _) _ _ _ | show wpAny _ _ (exec (Stmt.If (Expr.BoolOp _ _ _) [Stmt.Assign [Expr.Name _ _] (Expr.Subscript _ _ _) _] _ _) _) _ _ _)); fail_if_success (with_reducible first | show wpAny _ _ (eval (Expr.ListComp _ _ _ _) _) _ _ _ | show wpAny _ _ (exec (Stmt.Assign _ (Expr.ListComp _ _ _ _) _) _) _ _ _ | show LCg.CompSrc _ _ _ _ _ _ _ _ _ _ _ _ _ _ | show LCg.CompEnd _ _ _ _ _ _ _ _ _ _ _ _ _ _ | show wpAny _ _ (call (Value.builtin "max") _) _ _ _ | show LCp.SrcLP _ _ _ _ _ _ _ _ _ _ _ _ _ _ _))); dsimp only; walk1) | (leave1; (try dsimp only)) | fail "no step"))
      rename Fr _ _ _ _ => F9
      rename News _ _ _ _ => N9
      obtain ⟨oj9, hoj9, N10⟩ : ∃ oj : Obj, oj.data = .cell (some (.int (1 + (i : Int)) t)) ∧ News g' L' _ ((D5, LCg.lst ys) :: (I, oI) :: (ll, PySem.W.listOf (c2.vs ++ [Value.int M t6]).toArray (c2.e + 1)) :: (L' + 1 + 1 + 1 + 1 + 1, oj) :: (L' + 1 + 1 + 1 + 1, oc) :: (L' + 1 + 1 + 1, oo3) :: (L' + 1 + 1, oo4) :: (L' + 1, oo5) :: news) := ⟨_, by assumption, N9⟩
      have hval : ∀ k : Nat, k ≤ i → kdpLook c (Txt.slice x (some (k : Int)) (some (1 + (i : Int)))) 0 = D W (seg (ls x) k (i + 1)) := by
        intro k hk
        have hh := hhas k (1 + i) (by exact om64 hp2 hk) (by exact om61 hi hp2)
        rw [show ((1 + i : Nat) : Int) = 1 + (i : Int) by exact om62] at hh
        rw [hTells _ hh, ls_ss (by exact om30) (by exact om65 hp2 hk) (by omega)]
        unfold seg
        rw [show (1 + (i : Int) - (k : Int)).toNat = i + 1 - k by exact om66 hp2 hk, show ((k : Int)).toNat = k by exact om56]
      have hmem : ∀ k : Nat, k ≤ i → (c2.ns.getD k 0 + D W (seg (ls x) k (i + 1)) - tl) ∈ (List.map (fun k => c2.ns.getD k.toNat 0 + kdpLook c (Txt.slice x (some k) (some (1 + (i : Int)))) 0 - tl) (rangeKs 0 (1 + (i : Int) - 0).toNat)) := by
        intro k hk
        refine List.mem_map.mpr ⟨(k : Int), ?_, ?_⟩
        · unfold rangeKs
          exact List.mem_map.mpr ⟨k, List.mem_range.mpr (by exact om67 hp2 hk), by omega⟩
        · rw [hval k hk, show ((k : Int)).toNat = k by exact om56]
      refine ⟨⟨c2.vs ++ [Value.int M t6], c2.ns ++ [M], c2.e + 1, oj9⟩, _, _, _, _, rfl, F9, fun _ => rfl, N10, fun p hp => .tail _ (.tail _ hp), .tail _ (.head _), ?_, ⟨IntsAre.append hp1 (IntsAre.cons _ _ IntsAre.nil), ?_, dp_snoc hp2 hp3 ?_ (fun k hk => hM2 _ (hmem k hk)), _, hoj9⟩⟩
      · refine List.forall_mem_cons.mpr ⟨hI0.symm, List.forall_mem_cons.mpr ⟨hI1.symm, fun p hp => hne p (.tail _ (.tail _ hp))⟩⟩
      · rw [List.length_append, hp2]; rfl
      · obtain ⟨k, hk1, hk2⟩ := List.mem_map.mp hM1
        unfold rangeKs at hk1
        obtain ⟨q, hq1, hq2⟩ := List.mem_map.mp hk1
        have hq3 := List.mem_range.mp hq1
        refine ⟨q, by exact om68 hp2 hq2 hq3, ?_⟩
        have hkq : k = (q : Int) := by omega
        rw [← hk2, hkq]
        rw [hval q (by exact om68 hp2 hq2 hq3), show ((q : Int)).toNat = q by omega]
end Mine
end

section
namespace Mine
section
variable {prog : Program} {w : World} {A : Around} {h₀ : Heap} {L : Addr} {m : Str → Option Value} {env : Env} {elt : Expr} {x x₂ : Str} {scope : Scope} {cl : List (Str × Addr)} {s : Shared} {S : List (Addr × Obj) → Prop} {P : Nat → Value → Prop} {Fin : List Value → List (Addr × Obj) → Prop} {news : List (Addr × Obj)} {n : Nat}
/-- a comprehension by an invariant over the turn's number, what is made so far and the ledger -/
theorem comp_inv (Inv : Nat → List Value → List (Addr × Obj) → Prop) (h0 : Inv 0 [] news) (fin : ∀ ys nw, Inv n ys nw → Fin ys nw)
    (step : ∀ (i : Nat) (ys : List Value) (nw : List (Addr × Obj)) (v : Value) (I : Addr) (oI : Obj) (C : Addr) (oC : Obj) (D : Addr) (m₂ : Str → Option Value) (h : Heap) (tk : Nat) (E' : Value → Shared → Prop), i < n → Inv i ys nw → P i v → LCg.NsObj oC m₂ → m₂ x = some v → Fr h₀ L h m →
      News h₀ L h ((I, oI) :: (C, oC) :: (D, LCg.lst ys) :: nw) → LCg.Off3 I C D nw → ((@Ne Nat I C) ∧ (@Ne Nat I D) ∧ (@Ne Nat C D)) →
      wpAny (model prog w) A (eval elt (compEnvC scope cl C env)) (LCg.CompEnd h₀ L m { s with heap := h, toks := tk } I oI C oC D (LCg.lst ys) S (fun y nw' => Inv (i + 1) (ys ++ [y]) nw')) E' { s with heap := h, toks := tk }) :
    LCg.CompRest prog w A h₀ L m env elt x scope cl s S P Fin n 0 [] news := by
  have go : ∀ (k i : Nat) (ys : List Value) (nw : List (Addr × Obj)), i + k = n → Inv i ys nw → LCg.CompRest prog w A h₀ L m env elt x scope cl s S P Fin k i ys nw := by
    intro k
    induction k with
    | zero =>
      intro i ys nw e hi
      obtain rfl : i = n := by omega
      exact LCg.CompRest.zero (fin _ _ hi)
    | succ k ih =>
      intro i ys nw e hi
      refine LCg.CompRest.succ fun v I oI C oC D m₂ h tk E' hv hC hx F N off ne => ?_
      refine wpAny_mono (step i ys nw v I oI C oC D m₂ h tk E' (by exact om21 e) hi hv hC hx F N off ne) (fun y s₂ hq => ?_) fun _ _ z => z
      obtain ⟨h', tk', nw', a1, a2, a3, a4, a5, a6⟩ := hq
      exact ⟨h', tk', nw', a1, a2, a3, a4, a5, ih (i + 1) _ _ (by exact om22 e) a6⟩
  exact go n 0 [] news (by exact om23) h0
/-- the same over a list of pairs -/
theorem comp_invP (Inv : Nat → List Value → List (Addr × Obj) → Prop) (h0 : Inv 0 [] news) (fin : ∀ ys nw, Inv n ys nw → Fin ys nw)
    (step : ∀ (i : Nat) (ys : List Value) (nw : List (Addr × Obj)) (v : Value), i < n → Inv i ys nw → P i v → ∃ (t : Addr) (ot : Obj) (v₁ v₂ : Value) (nt : Nat), v = .ref t ∧ (t, ot) ∈ nw ∧ ot.cls = .type "tuple" ∧ ot.data = .seq #[v₁, v₂] nt ∧
      ∀ (I : Addr) (oI : Obj) (C : Addr) (oC : Obj) (D : Addr) (m₂ : Str → Option Value) (h : Heap) (tk : Nat) (E' : Value → Shared → Prop), LCg.NsObj oC m₂ → m₂ x = some v₁ → m₂ x₂ = some v₂ → Fr h₀ L h m →
      News h₀ L h ((I, oI) :: (C, oC) :: (D, LCg.lst ys) :: nw) → LCg.Off3 I C D nw → ((@Ne Nat I C) ∧ (@Ne Nat I D) ∧ (@Ne Nat C D)) →
      wpAny (model prog w) A (eval elt (compEnvC scope cl C env)) (LCg.CompEnd h₀ L m { s with heap := h, toks := tk } I oI C oC D (LCg.lst ys) S (fun y nw' => Inv (i + 1) (ys ++ [y]) nw')) E' { s with heap := h, toks := tk }) :
    LCp.CompRestP prog w A h₀ L m env elt x x₂ scope cl s S P Fin n 0 [] news := by
  have go : ∀ (k i : Nat) (ys : List Value) (nw : List (Addr × Obj)), i + k = n → Inv i ys nw → LCp.CompRestP prog w A h₀ L m env elt x x₂ scope cl s S P Fin k i ys nw := by
    intro k
    induction k with
    | zero =>
      intro i ys nw e hi
      obtain rfl : i = n := by omega
      exact LCp.CompRestP.zero (fin _ _ hi)
    | succ k ih =>
      intro i ys nw e hi
      refine LCp.CompRestP.succ fun v hv => ?_
      obtain ⟨t, ot, v₁, v₂, nt, b1, b2, b3, b4, b5⟩ := step i ys nw v (by exact om21 e) hi hv
      refine ⟨t, ot, v₁, v₂, nt, b1, b2, b3, b4, fun I oI C oC D m₂ h tk E' hC h1 h2 F N off ne => ?_⟩
      refine wpAny_mono (b5 I oI C oC D m₂ h tk E' hC h1 h2 F N off ne) (fun y s₂ hq => ?_) fun _ _ z => z
      obtain ⟨h', tk', nw', a1, a2, a3, a4, a5, a6⟩ := hq
      exact ⟨h', tk', nw', a1, a2, a3, a4, a5, ih (i + 1) _ _ (by exact om22 e) a6⟩
  exact go n 0 [] news (by exact om23) h0
end
end Mine
end

section
namespace Mine
section
variable {prog : Program} {w : World} {A : Around} {E : Value → Shared → Prop} {s : Shared} {h₀ : Heap} {L : Addr} {m : Str → Option Value} {env : Env}
/-- one turn of a comprehension over pairs with a test -/
noncomputable def StepPT (prog : Program) (w : World) (A : Around) (h₀ : Heap) (L : Addr) (m : Str → Option Value) (env : Env) (ct elt : Expr) (x x₂ : Str) (scope : Scope) (cl : List (Str × Addr)) (its : Array Value) (news : List (Addr × Obj)) (Inv : Nat → List Value → Prop) (s₂ : Shared) : Prop :=
  ∀ (i : Nat) (ys : List Value), i < its.size → Inv i ys → ∃ (t : Addr) (ot : Obj) (v₁ v₂ : Value) (nt : Nat), its[i]? = some (.ref t) ∧ (t, ot) ∈ news ∧ ot.cls = .type "tuple" ∧ ot.data = .seq #[v₁, v₂] nt ∧
    ∀ (I : Addr) (oI : Obj) (C : Addr) (oC : Obj) (D : Addr) (m₂ : Str → Option Value) (h : Heap) (tk : Nat) (E' : Value → Shared → Prop), LCg.NsObj oC m₂ → m₂ x = some v₁ → m₂ x₂ = some v₂ → Fr h₀ L h m →
      News h₀ L h ((I, oI) :: (C, oC) :: (D, LCg.lst ys) :: news) → LCg.Off3 I C D news → ((@Ne Nat I C) ∧ (@Ne Nat I D) ∧ (@Ne Nat C D)) →
      wpAny (model prog w) A (isTrue ct (compEnvC scope cl C env) (eval ct (compEnvC scope cl C env))) (fun ok s' => if ok = true then
        wpAny (model prog w) A (eval elt (compEnvC scope cl C env)) (LCg.CompEnd h₀ L m { s₂ with heap := h, toks := tk } I oI C oC D (LCg.lst ys) (fun _ => True) (fun y nw' => nw' = news ∧ Inv (i + 1) (ys ++ [y]))) E' s'
        else LCg.CompEnd h₀ L m { s₂ with heap := h, toks := tk } I oI C oC D (LCg.lst ys) (fun _ => True) (fun _ nw' => nw' = news ∧ Inv (i + 1) ys) .none s') E' { s₂ with heap := h, toks := tk }
/-- what is asked where the list is reached -/
noncomputable def SrcPT (prog : Program) (w : World) (A : Around) (h₀ : Heap) (L : Addr) (m : Str → Option Value) (env : Env) (ct elt : Expr) (x x₂ : Str) (scope : Scope) (cl : List (Str × Addr)) (Q : Value → Shared → Prop) (xv : Value) (s₁ : Shared) : Prop :=
  ∃ (ax : Addr) (its : Array Value) (kk : Nat) (news : List (Addr × Obj)) (Inv : Nat → List Value → Prop), xv = .ref ax ∧ A.handled = none ∧ Fr h₀ L s₁.heap m ∧ News h₀ L s₁.heap news ∧ (ax, ({ cls := .type "list", data := .seq its kk } : Obj)) ∈ news ∧ its.size ≤ sizeLine ∧
    Inv 0 [] ∧ (∀ g, StepPT prog w A h₀ L m env ct elt x x₂ scope cl its news Inv { s₁ with heap := g }) ∧ ∀ g ys, Inv its.size ys → LCg.FinE h₀ L m { s₁ with heap := g } Q ys news
/-- between the turns: i items are behind, ys is made -/
noncomputable def PTSt (h₀ : Heap) (L : Addr) (m : Str → Option Value) (I ax : Addr) (its : Array Value) (C D : Addr) (news : List (Addr × Obj)) (Inv : Nat → List Value → Prop) (s₂ : Shared) (k : Nat) (s' : Shared) : Prop :=
  ∃ h' tk' i ys m', s' = { s₂ with heap := h', toks := tk' } ∧ i ≤ its.size ∧ k = its.size + 1 - i ∧ ys.length ≤ i ∧ (h'.IsListIter I ax i ∧ h'.IsList ax its) ∧ Fr h₀ L h' m ∧ h'.Ns C m' ∧ News h₀ L h' ((D, LCg.lst ys) :: news) ∧ Inv i ys
theorem block_PT {ct elt iter : Expr} {x x₂ : Str} {px px₂ tp : Pos} {tk : Nat} {scope : Scope} {cl : List (Str × Addr)} {pos : Pos} {s₂ : Shared} {I ax : Addr} {its : Array Value} {kk : Nat} {news : List (Addr × Obj)} {Inv : Nat → List Value → Prop} {RR : Value → Addr → Result → Shared → Prop}
    (hh : A.handled = none) (hcell : ∀ y ∈ scope.names, y.2 ≠ .cell) (hkind : scope.kind = .function) (hx : scope.names.lookup x = some .local) (hx₂ : scope.names.lookup x₂ = some .local) (hxx : x ≠ x₂)
    (hlt : ax < I) (gI : s₂.heap.IsListIter I ax 0) (gl : s₂.heap.IsList ax its) (gsz : s₂.heap.objs.size = I + 1) (F1 : Fr h₀ L s₂.heap m) (N1 : News h₀ L s₂.heap news) (hax : (ax, ({ cls := .type "list", data := .seq its kk } : Obj)) ∈ news) (hsz : its.size ≤ sizeLine)
    (hI₀ : h₀.get? I = none) (hLI : L ≠ I) (offI : ∀ p ∈ news, p.1 ≠ I) (hI0 : Inv 0 []) (hstep1 : StepPT prog w A h₀ L m env ct elt x x₂ scope cl its news Inv s₂)
    (hfin1 : ∀ D C h tk m' ys, Fr h₀ L h m → News h₀ L h ((D, LCg.lst ys) :: news) → LCg.Off1 D news → h.Ns C m' → h₀.get? C = none → h₀.get? D = none → C ≠ L → D ≠ L → C ≠ D → (∀ p ∈ news, p.1 ≠ C) → Inv its.size ys → RR (.ref D) C (.ok .next) { s₂ with heap := h, toks := tk }) :
    wpAny (model prog w) A (newList []) (fun acc s₃ => wpAny (model prog w) A (newFunctionEnv scope env.globals cl [] env.qual none .none (some env)) (fun cenv s₄ =>
      codeAny (model prog w) A (.compStart (.ListComp elt [⟨.Tuple [.Name x px, .Name x₂ px₂] tk tp, iter, [ct], 0⟩] scope pos) 0 (.ref I) acc { cenv with scope := relabel scope env }) (RR acc cenv.locals) s₄) E s₃) E s₂ := by
  refine wpAny_newObj_type (wpAny_newFunctionEnv hcell (by intro y hy; simp at hy) (fun h₁ hns₂ hsb₁ => ?_) hkind)
  (try dsimp only at hns₂ hsb₁ hstep1 hfin1 ⊢)
  have W := Walks.list (prog := prog) (w := w) (A := A) hh I ax (Nat.ne_of_lt hlt) its
  generalize hD : s₂.heap.objs.size = D at hns₂ hsb₁ ⊢
  generalize hH : s₂.heap.push { cls := .type "list", dict := none, data := .seq ([] : List Value).toArray } = H at hns₂ hsb₁ ⊢
  have hCe : H.objs.size = D + 1 := by rw [← hH, Heap.size_push, hD]
  generalize hC : H.objs.size = C at hns₂ hsb₁ ⊢
  have hCD : C = D + 1 := hC.symm.trans hCe
  have hDI : D = I + 1 := hD.symm.trans gsz
  have neIC : I ≠ C := by rw [hCD, hDI]; exact Nat.ne_of_lt (Nat.lt_succ_of_lt (Nat.lt_succ_self I))
  have neID : I ≠ D := by rw [hDI]; exact Nat.ne_of_lt (Nat.lt_succ_self I)
  have neCD : C ≠ D := by rw [hCD]; exact Nat.ne_of_gt (Nat.lt_succ_self D)
  have neaxD : ax ≠ D := by rw [hDI]; exact Nat.ne_of_lt (Nat.lt_succ_of_lt hlt)
  have neaxC : ax ≠ C := by rw [hCD, hDI]; exact Nat.ne_of_lt (Nat.lt_succ_of_lt (Nat.lt_succ_of_lt hlt))
  have ltD : ∀ b o, s₂.heap.get? b = some o → b < D := fun b o e => hD ▸ Heap.lt_size e
  have neC : ∀ b o, s₂.heap.get? b = some o → b ≠ C := fun b o e => by rw [hCD]; exact Nat.ne_of_lt (Nat.lt_succ_of_lt (ltD b o e))
  have old : ∀ b o, s₂.heap.get? b = some o → h₁.get? b = some o := fun b o e => hsb₁.extBut b o (neC b o e) (Heap.get?_push_of_some _ (hH ▸ Heap.get?_push_of_some _ e))
  have hacc : h₁.get? D = some (LCg.lst []) := hsb₁.extBut _ _ neCD.symm (Heap.get?_push_of_some _ (by rw [← hH, ← hD]; exact Heap.get?_push_size _ rfl))
  have no0 : ∀ a, D ≤ a → h₀.get? a = none := fun a ha => by
    cases e : h₀.get? a with
    | none => rfl
    | some o' => exact absurd (ltD a o' (F1.keep a o' e)) (Nat.not_lt.mpr ha)
  have hD₀ : h₀.get? D = none := no0 D (Nat.le_refl _)
  have hC₀ : h₀.get? C = none := no0 C (by rw [hCD]; exact Nat.le_succ _)
  have hLlt : L < D := hD ▸ F1.ns.lt
  have hDL : D ≠ L := Nat.ne_of_gt hLlt
  have hCL : C ≠ L := by rw [hCD]; exact Nat.ne_of_gt (Nat.lt_succ_of_lt hLlt)
  have off : LCg.Off3 I C D news := LCg.Off3.of fun p hp => ⟨offI p hp, neC _ _ (N1 p hp).1, Nat.ne_of_lt (ltD _ _ (N1 p hp).1)⟩
  have offm := off.mem
  have li₁ : h₁.IsListIter I ax 0 := by obtain ⟨o, e, r⟩ := gI; exact ⟨o, old _ _ e, r⟩
  have l₁ : h₁.IsList ax its := by obtain ⟨o, e, r⟩ := gl; exact ⟨o, old _ _ e, r⟩
  have loop : ∀ s₃ : Shared, s₃ = { s₂ with heap := h₁, toks := s₂.toks + ([] : List (Str × Value)).length } →
      codeAny (model prog w) A (.compLoop (.ListComp elt [⟨.Tuple [.Name x px, .Name x₂ px₂] tk tp, iter, [ct], 0⟩] scope pos) 0 (.ref I) (.ref D) (compEnvC scope cl C env)) (RR (.ref D) C) s₃ := by
    rintro s₃ rfl
    refine kct_loop
      (PTSt h₀ L m I ax its C D news Inv s₂) ?_ (its.size + 1)
      ⟨h₁, _, 0, [], _, rfl, Nat.zero_le _, rfl, Nat.le_refl _, ⟨li₁, l₁⟩, F1.keeps old, hns₂, ?_, hI0⟩
    · rintro k s' ⟨h', tk', i, ys, m', rfl, hi, rfl, hyl, hst', F', hn', N', hInv⟩
      by_cases hlt' : i < its.size
      · refine W.item i _ _ _ hlt' hst' fun v h₂ tk₂ hPv hst₂ hk₂ => ?_
        obtain ⟨t, ot, v₁, v₂, nt, hv, hmt, hct, hdt, hbody⟩ := hstep1 i ys hlt' hInv
        obtain ⟨v', hv', rfl⟩ : ∃ v', its[i]? = some v' ∧ v' = v := ⟨v, hPv, rfl⟩
        rw [hv] at hv'
        cases hv'
        have N₂ : News h₀ L h₂ ((D, LCg.lst ys) :: news) := LCg.news_but N' hk₂ (List.forall_mem_cons.mpr ⟨neID.symm, offI⟩)
        have ht : IsTup h₂ t #[v₁, v₂] := ⟨ot, (N₂ _ (.tail _ hmt)).1, hct, nt, hdt⟩
        obtain ⟨hLi, hLl⟩ := hst₂
        refine wpAny_letOwnedTupleGo_listiter hLi ?_
        refine assign_Tuple_tuple hh ht rfl rfl fun h₅ he => ?_
        have up5 : ∀ b o, h₂.get? b = some o → h₅.get? b = some o := fun b o e => he b o (Nat.ne_of_lt (Heap.lt_size e)) e
        have n2 : h₂.Ns C m' := hn'.at' fun o e => hk₂ _ o (by simpa using neIC.symm) e
        refine assignInOrder_cons (wpAny_assign_Name (wpAny_storeName_local (lookup_relabel_local hx) (n2.at' fun o e => up5 _ o e) (fun h₆ hn₆ hs₆ => ?_) (by simp [compEnvC, relabel, hkind])))
        refine assignInOrder_cons (wpAny_assign_Name (wpAny_storeName_local (lookup_relabel_local hx₂) hn₆ (fun h₃ hn₃ hs₃ => ?_) (by simp [compEnvC, relabel, hkind])))
        refine assignInOrder_nil ?_
        have up3 : ∀ b o, b ≠ C → h₂.get? b = some o → h₃.get? b = some o := fun b o hb e => hs₃.extBut b o hb (hs₆.extBut b o hb (up5 b o e))
        have li₃ : h₃.IsListIter I ax (i + 1) := by obtain ⟨o, e, r⟩ := hLi; exact ⟨o, up3 _ _ neIC e, r⟩
        have l₃ : h₃.IsList ax its := by obtain ⟨o, e, r⟩ := hLl; exact ⟨o, up3 _ _ neaxC e, r⟩
        obtain ⟨oI, heI, hoI⟩ := li₃
        obtain ⟨oC, heC, hoC⟩ := LCg.ns_obj hn₃
        have F₃ : Fr h₀ L h₃ m := (((LCg.fr_but F' hk₂ hLI hI₀).keeps up5).change hs₆ hCL hC₀).change hs₃ hCL hC₀
        have cneC : ∀ p ∈ (D, LCg.lst ys) :: news, p.1 ≠ C := List.forall_mem_cons.mpr ⟨neCD.symm, fun p hp => (offm p hp).2.1⟩
        have N₃ : News h₀ L h₃ ((I, oI) :: (C, oC) :: (D, LCg.lst ys) :: news) := news_cons heI hLI.symm hI₀ (news_cons heC hCL hC₀ fun p hp => ⟨up3 _ _ (cneC p hp) (N₂ p hp).1, (N₂ p hp).2⟩)
        refine wpAny_mono (hbody I oI C oC D _ h₃ _ _ hoC (by simp [hxx]) (by simp) F₃ N₃ off ⟨neIC, neID, neCD⟩) (fun ok s₄ h₄ => ?_) fun _ _ e => e
        have fin : ∀ (h₆ : Heap) (tk₆ : Nat) (zs : List Value), zs.length ≤ i + 1 → Fr h₀ L h₆ m → News h₀ L h₆ ((I, oI) :: (C, oC) :: (D, LCg.lst zs) :: news) → Inv (i + 1) zs →
            ∃ q, q < its.size + 1 - i ∧ PTSt h₀ L m I ax its C D news Inv s₂ q { s₂ with heap := h₆, toks := tk₆ } := by
          intro h₆ tk₆ zs hz F₆ N₆ hI₆
          have zI := (N₆ _ (.head _)).1
          have zC := (N₆ _ (.tail _ (.head _))).1
          have zax := (N₆ _ (.tail _ (.tail _ (.tail _ hax)))).1
          exact ⟨its.size + 1 - (i + 1), by exact om72 hlt', h₆, tk₆, i + 1, zs, _, rfl, hlt', rfl, hz, ⟨⟨oI, zI, hoI⟩, ⟨_, zax, rfl, _, rfl⟩⟩, F₆, hoC.ns zC, fun p hp => N₆ p (.tail _ (.tail _ hp)), hI₆⟩
        cases ok with
        | true =>
          simp only [if_true] at h₄ ⊢
          refine wpAny_mono h₄ (fun yv s₅ h₅' => ?_) fun _ _ e => e
          obtain ⟨h₆, tk₆, nw, rfl, F₆, N₆, off₆, _, rfl, hI₆⟩ := h₅'
          refine append_at (hsz := by show ys.toArray.size ≤ sizeLine; rw [List.size_toArray]; exact Nat.le_trans (Nat.le_trans hyl hi) hsz) (N₆ _ (.tail _ (.tail _ (.head _)))).1 fun h₇ hs₇ hD₇ => ?_
          exact fin h₇ tk₆ (ys ++ [yv]) (by rw [List.length_append]; exact Nat.succ_le_succ hyl) (F₆.change hs₇ hDL hD₀) (news_cons (hs₇.extBut _ _ neID (N₆ _ (.head _)).1) hLI.symm hI₀ (news_cons (hs₇.extBut _ _ neCD (N₆ _ (.tail _ (.head _))).1) hCL hC₀
            (news_cons (hD₇.trans (congrArg some (LCg.lst_snoc ys yv))) hDL hD₀ fun p hp => ⟨hs₇.extBut _ _ (offm p hp).2.2 (N₆ p (.tail _ (.tail _ (.tail _ hp)))).1, (N₆ p (.tail _ (.tail _ (.tail _ hp)))).2⟩))) hI₆
        | false =>
          simp only [Bool.false_eq_true, if_false] at h₄ ⊢
          obtain ⟨h₆, tk₆, nw, rfl, F₆, N₆, off₆, _, rfl, hI₆⟩ := h₄
          exact fin h₆ tk₆ ys (Nat.le_succ_of_le hyl) F₆ N₆ hI₆
      · obtain rfl : i = its.size := Nat.le_antisymm hi (Nat.not_lt.mp hlt')
        refine W.done _ _ _ hst' fun h₂ tk₂ hk₂ => ?_
        exact hfin1 D C h₂ tk₂ _ ys (LCg.fr_but F' hk₂ hLI hI₀) (LCg.news_but N' hk₂ (List.forall_mem_cons.mpr ⟨neID.symm, offI⟩)) off.one (hn'.at' fun o e => hk₂ _ o (by simpa using neIC.symm) e) hC₀ hD₀ hCL hDL neCD (fun p hp => (offm p hp).2.1) hInv
    · exact news_cons hacc hDL hD₀ fun p hp => ⟨old _ _ (N1 p hp).1, (N1 p hp).2⟩
  exact codeAny_compStart_list (loop _ rfl) (W.self 0 _ _ _ ⟨li₁, l₁⟩ (loop _ rfl))
theorem listcomp_PT {ct elt iter : Expr} {x x₂ : Str} {px px₂ tp : Pos} {tk : Nat} {scope : Scope} {cl : List (Str × Addr)} {pos : Pos} {Q : Value → Shared → Prop} (_F₀ : Fr h₀ L s.heap m)
    (hclos : closureFor scope env = pure cl) (hcell : ∀ y ∈ scope.names, y.2 ≠ .cell) (hkind : scope.kind = .function)
    (hnames : ∀ y ∈ scope.names, y.2 = .local → scope.names.lookup y.1 = some .local) (hx : scope.names.lookup x = some .local) (hx₂ : scope.names.lookup x₂ = some .local) (hxx : x ≠ x₂)
    (src : wpAny (model prog w) A (eval iter env) (SrcPT prog w A h₀ L m env ct elt x x₂ scope cl Q) E s)
    (hs : ∀ z, foldedSetIterable iter env z = pure z := by intro _; rfl) :
    wpAny (model prog w) A (eval (.ListComp elt [⟨.Tuple [.Name x px, .Name x₂ px₂] tk tp, iter, [ct], 0⟩] scope pos) env) Q E s := by
  rw [eval_ListComp]
  refine wpAny_comprehension_free (use := none) rfl hs hclos hkind hnames (wpAny_mono src (fun xv s₁ h₁ => ?_) fun _ _ e => e)
  obtain ⟨ax, its, kk, news, Inv, rfl, hh, F, N, hax, hsz, hI0, hstep, hfin⟩ := h₁
  have hl : s₁.heap.IsList ax its := ⟨_, (N _ hax).1, rfl, _, rfl⟩
  have hlt : ax < s₁.heap.objs.size := Heap.lt_size (N _ hax).1
  refine wpAny_pyIter_list hl ?_
  have up : ∀ b o, s₁.heap.get? b = some o → (s₁.heap.push { cls := .type "list_iterator", data := .fields #[.ref ax, .int 0 0] }).get? b = some o := fun b o e => Heap.get?_push_of_some _ e
  refine block_PT (I := s₁.heap.objs.size) (Inv := Inv) hh hcell hkind hx hx₂ hxx hlt ⟨_, Heap.get?_push_size _ rfl, rfl, rfl⟩ (hl.push _) (Heap.size_push _ _) (F.keeps up) (N.grown up) hax hsz (next_is_new F) (Nat.ne_of_lt F.ns.lt) (fun p hp => Nat.ne_of_lt (Heap.lt_size (N p hp).1)) hI0 (hstep _) ?_
  intro D C h tk' m' ys F' N' o1 hn hC₀ hD₀ hCL hDL hCD offC hI
  refine ⟨m', hn, fun h'' hs'' => hfin (s₁.heap.push { cls := .type "list_iterator", data := .fields #[.ref ax, .int 0 0] }) ys hI D h'' tk' (F'.change hs'' hCL hC₀) (fun p hp => ?_) o1⟩
  refine ⟨hs''.extBut _ _ ?_ (N' p hp).1, (N' p hp).2⟩
  rcases List.mem_cons.mp hp with rfl | hp
  · exact hCD.symm
  · exact offC p hp
end
end Mine
end

section
namespace Mine
noncomputable def lawDef (w : World) : DefAt (hd.heap_39 w.params) 94 := by
  refine ⟨?_, ?_, ?_, ?_, ?_, ?_, ?_, ?_, ?_, ?_, ?_, ?_, ?_, ?_, ?_, ?ho⟩
  case ho => exact rfl
noncomputable abbrev lawCl (w : World) (L : Addr) : List (Str × Addr) := cellsFrom (L + 1) (lawDef w).scope.names []
noncomputable abbrev lawEnv (w : World) (L fa : Addr) (cd : Value) : Env := envX (lawDef w).qual (lawDef w).scope L fa cd (lawCl w L)
noncomputable abbrev lawTop (w : World) (dp un : Nat) (gd : Option (List Code)) (L fa : Addr) (cd : Value) : Around := ktrTop dp un gd (lawDef w).qual (lawDef w).scope L fa cd (lawCl w L) []
theorem Al_join : ∀ l : List Str, (∀ a ∈ l, Al a) → Al (Str.join (Str.ofString "") l)
  | [], _ => by intro c hc; cases hc
  | [x], h => h x (.head _)
  | x :: y :: r, h => Al.append (Al.append (h x (.head _)) (by intro c hc; cases hc)) (Al_join (y :: r) fun a ha => h a (.tail _ ha))
theorem Al_sign (k : Int) : Al (Txt.item signs (k.fmod 5)) := by
  have h : 0 ≤ k.fmod 5 ∧ k.fmod 5 < 5 := by
    rw [Int.fmod_eq_emod_of_nonneg _ (by decide)]
    omega
  have e : k.fmod 5 = 0 ∨ k.fmod 5 = 1 ∨ k.fmod 5 = 2 ∨ k.fmod 5 = 3 ∨ k.fmod 5 = 4 := on_lt5i h
  intro c hc
  rcases e with e | e | e | e | e <;> rw [e, item_one (by decide) (by decide)] at hc <;> (rw [List.mem_singleton.mp hc]; decide)
theorem phase1 (w : World) (mean : ExcName → Option Value) (mg mb : Str → Option Value) (dp un : Nat) (gd : Option (List Code)) (cd : Value) (L fa sa : Addr) (vs : List Value) (ns : List Int) (o1 o2 o3 : Obj) (A₀ : Around) (base h₀ : Heap) (s : Shared) (Q : Flow → Shared → Prop) (E : Value → Shared → Prop)
    (hB : Below A₀ base [] h₀) (hF : Fr h₀ L s.heap (fun z => List.lookup z [(Str.ofString "script", .ref sa)])) (hX : (hd.heap_39 w.params).In h₀) (hN : News h₀ L s.heap [(L + 1 + 1 + 1, o1), (L + 1 + 1, o2), (L + 1, o3)]) (hT : Top hd.view_39 (looseW hd.view_39 []) mean mg mb h₀)
    (hs : h₀.IsList sa vs.toArray) (hi : IntsAre vs ns) (hlen : ns.length ≤ 63) (d1 : o1.data = .cell none) (d2 : o2.data = .cell none) (d3 : o3.data = .cell none) (hdp : dp + 20 < recursionLimit) (hun : un + 200 < cLine)
    (ret : ∀ (h' : Heap) (tk' : Nat) (x : Str) (tx : Tok) (y : Str) (ty : Tok) (tt : Tok) (rul : Addr) (u : Str → Option Value) (ot : Obj), Al x → 3 ≤ x.length → x.length ≤ 5 → Al y → y.length = 2 → ot.data = .cell (some (.str x tx)) →
      Fr h₀ L h' (fun z => if z = Str.ofString "rulers" then some (Value.ref rul) else if z = Str.ofString "word" then some (Value.str y ty) else if z = Str.ofString "total" then some (Value.int ns.sum tt) else u z) →
      News h₀ L h' [(rul, PySem.W.listOf #[] 0), (L + 1 + 1 + 1, o1), (L + 1 + 1, o2), (L + 1, ot)] → L + 1 + 1 + 1 < rul → Q .next { s with heap := h', toks := tk' }) :
    wpAny (model Challenge.rw_ph0059_01.row.prog w) (lawTop w dp un gd L fa cd) (execs ((lawDef w).body.take 5) (lawEnv w L fa cd)) Q E s := by
  k_fill
  (try dsimp only [lawDef, List.take, lawTop, lawEnv, lawCl])
  w_on
  (repeat' (first | (k_unfold; (try dsimp only)) | ((((fail_if_success (with_reducible first | show wpAny _ _ (exec (Stmt.For _ _ _ _ _) _) _ _ _ | show wpAny _ _ (exec (Stmt.While _ _ _ _) _) _ _ _ | show wpAny _ _ (pyIter _) _ _ _ | show wpAny _ _ (call (Value.ref _) _ _) _ _ _ | show wpAny _ _ (eval (Expr.Subscript _ (Expr.Slice none (some (Expr.BoolOp _ _ _)) none _) _) _) _ _ _ | show wpAny _ _ (exec (Stmt.If _ [Stmt.Assign [Expr.Tuple _ _ _] _ _] _ _) _) _ _ _ | show wpAny _ _ (exec (Stmt.If (Expr.BoolOp _ _ _) [Stmt.Assign [Expr.Name _ _] (Expr.Subscript _ _ _) _] _ _) _) _ _ _)); fail_if_success (with_reducible first | show wpAny _ _ (eval (Expr.ListComp _ _ _ _) _) _ _ _ | show wpAny _ _ (exec (Stmt.Assign _ (Expr.ListComp _ _ _ _) _) _) _ _ _ | show LCg.CompSrc _ _ _ _ _ _ _ _ _ _ _ _ _ _ | show LCg.CompEnd _ _ _ _ _ _ _ _ _ _ _ _ _ _ | show wpAny _ _ (call (Value.builtin "max") _) _ _ _ | show LCp.SrcLP _ _ _ _ _ _ _ _ _ _ _ _ _ _ _))); walk1) | ((((fail_if_success (with_reducible first | show wpAny _ _ (exec (Stmt.For _ _ _ _ _) _) _ _ _ | show wpAny _ _ (exec (Stmt.While _ _ _ _) _) _ _ _ | show wpAny _ _ (pyIter _) _ _ _ | show wpAny _ _ (call (Value.ref _) _ _) _ _ _ | show wpAny _ _ (eval (Expr.Subscript _ (Expr.Slice none (some (Expr.BoolOp _ _ _)) none _) _) _) _ _ _ | show wpAny _ _ (exec (Stmt.If _ [Stmt.Assign [Expr.Tuple _ _ _] _ _] _ _) _) _ _ _ | show wpAny _ _ (exec (Stmt.If (Expr.BoolOp _ _ _) [Stmt.Assign [Expr.Name _ _] (Expr.Subscript _ _ _) _] _ _) _) _ _ _)); fail_if_success (with_reducible first | show wpAny _ _ (eval (Expr.ListComp _ _ _ _) _) _ _ _ | show wpAny _ _ (exec (Stmt.Assign _ (Expr.ListComp _ _ _ _) _) _) _ _ _ | show LCg.CompSrc _ _ _ _ _ _ _ _ _ _ _ _ _ _ | show LCg.CompEnd _ _ _ _ _ _ _ _ _ _ _ _ _ _ | show wpAny _ _ (call (Value.builtin "max") _) _ _ _ | show LCp.SrcLP _ _ _ _ _ _ _ _ _ _ _ _ _ _ _))); dsimp only; walk1) | (leave1; (try dsimp only)) | fail "no step"))
  k_dflt (refine LCg.ListComp_U (F₀ := by k_asm) (by with_unfolding_all rfl) (by decide) (by rfl) (by decide) (by rfl) ?_)
  (repeat' (first | (k_unfold; (try dsimp only)) | ((((fail_if_success (with_reducible first | show wpAny _ _ (exec (Stmt.For _ _ _ _ _) _) _ _ _ | show wpAny _ _ (exec (Stmt.While _ _ _ _) _) _ _ _ | show wpAny _ _ (pyIter _) _ _ _ | show wpAny _ _ (call (Value.ref _) _ _) _ _ _ | show wpAny _ _ (eval (Expr.Subscript _ (Expr.Slice none (some (Expr.BoolOp _ _ _)) none _) _) _) _ _ _ | show wpAny _ _ (exec (Stmt.If _ [Stmt.Assign [Expr.Tuple _ _ _] _ _] _ _) _) _ _ _ | show wpAny _ _ (exec (Stmt.If (Expr.BoolOp _ _ _) [Stmt.Assign [Expr.Name _ _] (Expr.Subscript _ _ _) _] _ _) _) _ _ _)); fail_if_success (with_reducible first | show wpAny _ _ (eval (Expr.ListComp _ _ _ _) _) _ _ _ | show wpAny _ _ (exec (Stmt.Assign _ (Expr.ListComp _ _ _ _) _) _) _ _ _ | show LCg.CompSrc _ _ _ _ _ _ _ _ _ _ _ _ _ _ | show LCg.CompEnd _ _ _ _ _ _ _ _ _ _ _ _ _ _ | show wpAny _ _ (call (Value.builtin "max") _) _ _ _ | show LCp.SrcLP _ _ _ _ _ _ _ _ _ _ _ _ _ _ _))); walk1) | ((((fail_if_success (with_reducible first | show wpAny _ _ (exec (Stmt.For _ _ _ _ _) _) _ _ _ | show wpAny _ _ (exec (Stmt.While _ _ _ _) _) _ _ _ | show wpAny _ _ (pyIter _) _ _ _ | show wpAny _ _ (call (Value.ref _) _ _) _ _ _ | show wpAny _ _ (eval (Expr.Subscript _ (Expr.Slice none (some (Expr.BoolOp _ _ _)) none _) _) _) _ _ _ | show wpAny _ _ (exec (Stmt.If _ [Stmt.Assign [Expr.Tuple _ _ _] _ _] _ _) _) _ _ _ | show wpAny _ _ (exec (Stmt.If (Expr.BoolOp _ _ _) [Stmt.Assign [Expr.Name _ _] (Expr.Subscript _ _ _) _] _ _) _) _ _ _)); fail_if_success (with_reducible first | show wpAny _ _ (eval (Expr.ListComp _ _ _ _) _) _ _ _ | show wpAny _ _ (exec (Stmt.Assign _ (Expr.ListComp _ _ _ _) _) _) _ _ _ | show LCg.CompSrc _ _ _ _ _ _ _ _ _ _ _ _ _ _ | show LCg.CompEnd _ _ _ _ _ _ _ _ _ _ _ _ _ _ | show wpAny _ _ (call (Value.builtin "max") _) _ _ _ | show LCp.SrcLP _ _ _ _ _ _ _ _ _ _ _ _ _ _ _))); dsimp only; walk1) | (leave1; (try dsimp only)) | fail "no step"))
  rename Fr _ _ _ _ => F4
  rename News _ _ _ _ => N4
  rename IntsAre _ (List.take _ _) => hI4
  rename (List.take _ _).length = min _ _ => hCx
  have hl5 : (List.take 5 ns).length ≤ 5 := by rw [List.length_take]; exact Nat.min_le_left _ _
  clear hCx
  refine LCg.CompSrc.ledger (by rfl) F4 N4 (.head _) (by rw [sizeLine_eq, List.size_toArray]; have := hI4.length; omega) ?_
  intro g9
  refine kct_list (fun k => Txt.item signs (k.fmod 5)) hI4 (fun k' t' I' oI' C' oC' D' m' ys' h9 tk9 E9 hk hC hx F N off ne _ => ?_) ?_
  · (repeat' (first | (k_unfold; (try dsimp only)) | ((((fail_if_success (with_reducible first | show wpAny _ _ (exec (Stmt.For _ _ _ _ _) _) _ _ _ | show wpAny _ _ (exec (Stmt.While _ _ _ _) _) _ _ _ | show wpAny _ _ (pyIter _) _ _ _ | show wpAny _ _ (call (Value.ref _) _ _) _ _ _ | show wpAny _ _ (eval (Expr.Subscript _ (Expr.Slice none (some (Expr.BoolOp _ _ _)) none _) _) _) _ _ _ | show wpAny _ _ (exec (Stmt.If _ [Stmt.Assign [Expr.Tuple _ _ _] _ _] _ _) _) _ _ _ | show wpAny _ _ (exec (Stmt.If (Expr.BoolOp _ _ _) [Stmt.Assign [Expr.Name _ _] (Expr.Subscript _ _ _) _] _ _) _) _ _ _)); fail_if_success (with_reducible first | show wpAny _ _ (eval (Expr.ListComp _ _ _ _) _) _ _ _ | show wpAny _ _ (exec (Stmt.Assign _ (Expr.ListComp _ _ _ _) _) _) _ _ _ | show LCg.CompSrc _ _ _ _ _ _ _ _ _ _ _ _ _ _ | show LCg.CompEnd _ _ _ _ _ _ _ _ _ _ _ _ _ _ | show wpAny _ _ (call (Value.builtin "max") _) _ _ _ | show LCp.SrcLP _ _ _ _ _ _ _ _ _ _ _ _ _ _ _))); walk1) | ((((fail_if_success (with_reducible first | show wpAny _ _ (exec (Stmt.For _ _ _ _ _) _) _ _ _ | show wpAny _ _ (exec (Stmt.While _ _ _ _) _) _ _ _ | show wpAny _ _ (pyIter _) _ _ _ | show wpAny _ _ (call (Value.ref _) _ _) _ _ _ | show wpAny _ _ (eval (Expr.Subscript _ (Expr.Slice none (some (Expr.BoolOp _ _ _)) none _) _) _) _ _ _ | show wpAny _ _ (exec (Stmt.If _ [Stmt.Assign [Expr.Tuple _ _ _] _ _] _ _) _) _ _ _ | show wpAny _ _ (exec (Stmt.If (Expr.BoolOp _ _ _) [Stmt.Assign [Expr.Name _ _] (Expr.Subscript _ _ _) _] _ _) _) _ _ _)); fail_if_success (with_reducible first | show wpAny _ _ (eval (Expr.ListComp _ _ _ _) _) _ _ _ | show wpAny _ _ (exec (Stmt.Assign _ (Expr.ListComp _ _ _ _) _) _) _ _ _ | show LCg.CompSrc _ _ _ _ _ _ _ _ _ _ _ _ _ _ | show LCg.CompEnd _ _ _ _ _ _ _ _ _ _ _ _ _ _ | show wpAny _ _ (call (Value.builtin "max") _) _ _ _ | show LCp.SrcLP _ _ _ _ _ _ _ _ _ _ _ _ _ _ _))); dsimp only; walk1) | (leave1; (try dsimp only)) | fail "no step"))
    rename Fr _ _ _ _ => F8
    rename News _ _ _ _ => N8
    exact ⟨_, _, _, rfl, F8, N8, off, .inr ⟨_, .head _, rfl, _, rfl⟩, kct_el rfl rfl rfl⟩
  · intro ys hys hlen2
    unfold LCg.FinE
    intro D5 h5 tk5 F5 N5 off5
    simp only [LCg.Off1] at off5
    have hA0 : Al (Txt.join (Str.ofString "") ((ns.take 5).map fun k => Txt.item signs (k.fmod 5))) := by
      show Al (Builtin.Str.glued (Str.ofString "") _)
      rw [StrLaws.glued_eq_join]
      refine Al_join _ (fun y hy => ?_)
      obtain ⟨k, _, rfl⟩ := List.mem_map.mp hy
      exact Al_sign k
    (repeat' (first | (k_unfold; (try dsimp only)) | ((((fail_if_success (with_reducible first | show wpAny _ _ (exec (Stmt.For _ _ _ _ _) _) _ _ _ | show wpAny _ _ (exec (Stmt.While _ _ _ _) _) _ _ _ | show wpAny _ _ (pyIter _) _ _ _ | show wpAny _ _ (call (Value.ref _) _ _) _ _ _ | show wpAny _ _ (eval (Expr.Subscript _ (Expr.Slice none (some (Expr.BoolOp _ _ _)) none _) _) _) _ _ _ | show wpAny _ _ (exec (Stmt.If _ [Stmt.Assign [Expr.Tuple _ _ _] _ _] _ _) _) _ _ _ | show wpAny _ _ (exec (Stmt.If (Expr.BoolOp _ _ _) [Stmt.Assign [Expr.Name _ _] (Expr.Subscript _ _ _) _] _ _) _) _ _ _)); fail_if_success (with_reducible first | show wpAny _ _ (eval (Expr.ListComp _ _ _ _) _) _ _ _ | show wpAny _ _ (exec (Stmt.Assign _ (Expr.ListComp _ _ _ _) _) _) _ _ _ | show LCg.CompSrc _ _ _ _ _ _ _ _ _ _ _ _ _ _ | show LCg.CompEnd _ _ _ _ _ _ _ _ _ _ _ _ _ _ | show wpAny _ _ (call (Value.builtin "max") _) _ _ _ | show LCp.SrcLP _ _ _ _ _ _ _ _ _ _ _ _ _ _ _))); walk1) | ((((fail_if_success (with_reducible first | show wpAny _ _ (exec (Stmt.For _ _ _ _ _) _) _ _ _ | show wpAny _ _ (exec (Stmt.While _ _ _ _) _) _ _ _ | show wpAny _ _ (pyIter _) _ _ _ | show wpAny _ _ (call (Value.ref _) _ _) _ _ _ | show wpAny _ _ (eval (Expr.Subscript _ (Expr.Slice none (some (Expr.BoolOp _ _ _)) none _) _) _) _ _ _ | show wpAny _ _ (exec (Stmt.If _ [Stmt.Assign [Expr.Tuple _ _ _] _ _] _ _) _) _ _ _ | show wpAny _ _ (exec (Stmt.If (Expr.BoolOp _ _ _) [Stmt.Assign [Expr.Name _ _] (Expr.Subscript _ _ _) _] _ _) _) _ _ _)); fail_if_success (with_reducible first | show wpAny _ _ (eval (Expr.ListComp _ _ _ _) _) _ _ _ | show wpAny _ _ (exec (Stmt.Assign _ (Expr.ListComp _ _ _ _) _) _) _ _ _ | show LCg.CompSrc _ _ _ _ _ _ _ _ _ _ _ _ _ _ | show LCg.CompEnd _ _ _ _ _ _ _ _ _ _ _ _ _ _ | show wpAny _ _ (call (Value.builtin "max") _) _ _ _ | show LCp.SrcLP _ _ _ _ _ _ _ _ _ _ _ _ _ _ _))); dsimp only; walk1) | (leave1; (try dsimp only)) | fail "no step"))
    (try dsimp only [List.cons_append, List.nil_append])
    refine KT.join_1 ?jl hys (fun y _ => len_item _ _) (by omega) ?_
    case jl => exact News.isList N5 (.head _)
    intro t6 tk6 hl6
    generalize Txt.join (Str.ofString "") ((ns.take 5).map fun k => Txt.item signs (k.fmod 5)) = x0 at hA0 hl6 ⊢
    have hx5 : x0.length ≤ 5 := hl6 ▸ hl5
    clear hl6
    (repeat' (first | (k_unfold; (try dsimp only)) | ((((fail_if_success (with_reducible first | show wpAny _ _ (exec (Stmt.For _ _ _ _ _) _) _ _ _ | show wpAny _ _ (exec (Stmt.While _ _ _ _) _) _ _ _ | show wpAny _ _ (pyIter _) _ _ _ | show wpAny _ _ (call (Value.ref _) _ _) _ _ _ | show wpAny _ _ (eval (Expr.Subscript _ (Expr.Slice none (some (Expr.BoolOp _ _ _)) none _) _) _) _ _ _ | show wpAny _ _ (exec (Stmt.If _ [Stmt.Assign [Expr.Tuple _ _ _] _ _] _ _) _) _ _ _ | show wpAny _ _ (exec (Stmt.If (Expr.BoolOp _ _ _) [Stmt.Assign [Expr.Name _ _] (Expr.Subscript _ _ _) _] _ _) _) _ _ _)); fail_if_success (with_reducible first | show wpAny _ _ (eval (Expr.ListComp _ _ _ _) _) _ _ _ | show wpAny _ _ (exec (Stmt.Assign _ (Expr.ListComp _ _ _ _) _) _) _ _ _ | show LCg.CompSrc _ _ _ _ _ _ _ _ _ _ _ _ _ _ | show LCg.CompEnd _ _ _ _ _ _ _ _ _ _ _ _ _ _ | show wpAny _ _ (call (Value.builtin "max") _) _ _ _ | show LCp.SrcLP _ _ _ _ _ _ _ _ _ _ _ _ _ _ _))); walk1) | ((((fail_if_success (with_reducible first | show wpAny _ _ (exec (Stmt.For _ _ _ _ _) _) _ _ _ | show wpAny _ _ (exec (Stmt.While _ _ _ _) _) _ _ _ | show wpAny _ _ (pyIter _) _ _ _ | show wpAny _ _ (call (Value.ref _) _ _) _ _ _ | show wpAny _ _ (eval (Expr.Subscript _ (Expr.Slice none (some (Expr.BoolOp _ _ _)) none _) _) _) _ _ _ | show wpAny _ _ (exec (Stmt.If _ [Stmt.Assign [Expr.Tuple _ _ _] _ _] _ _) _) _ _ _ | show wpAny _ _ (exec (Stmt.If (Expr.BoolOp _ _ _) [Stmt.Assign [Expr.Name _ _] (Expr.Subscript _ _ _) _] _ _) _) _ _ _)); fail_if_success (with_reducible first | show wpAny _ _ (eval (Expr.ListComp _ _ _ _) _) _ _ _ | show wpAny _ _ (exec (Stmt.Assign _ (Expr.ListComp _ _ _ _) _) _) _ _ _ | show LCg.CompSrc _ _ _ _ _ _ _ _ _ _ _ _ _ _ | show LCg.CompEnd _ _ _ _ _ _ _ _ _ _ _ _ _ _ | show wpAny _ _ (call (Value.builtin "max") _) _ _ _ | show LCp.SrcLP _ _ _ _ _ _ _ _ _ _ _ _ _ _ _))); dsimp only; walk1) | (leave1; (try dsimp only)) | fail "no step"))
    rename Fr _ _ _ _ => F9
    rename News _ _ _ _ => N9
    refine led_name N9 ?_
    intro rul e
    subst e
    obtain ⟨m9, F10, ty, tt, hm9⟩ : ∃ m9, Fr h₀ L _ m9 ∧ ∃ ty tt, ∀ z, m9 z = if z = Str.ofString "rulers" then some (Value.ref rul) else if z = Str.ofString "word" then some (Value.str (Txt.item (Str.ofString "aAbB7") (ns.sum.fmod 5) ++ Txt.item (Str.ofString "aAbB7") ((ns.sum.fdiv 5 + 2).fmod 5)) ty) else if z = Str.ofString "drawn" then some (Value.str x0 t6) else if z = Str.ofString "total" then some (Value.int ns.sum tt) else List.lookup z [(Str.ofString "script", Value.ref sa)] := ⟨_, F9, _, _, fun _ => rfl⟩
    refine ret _ _ (x0 ++ Txt.slice (Str.ofString "bAB") (some (x0.length : Int)) none) _ (Txt.item (Str.ofString "aAbB7") (ns.sum.fmod 5) ++ Txt.item (Str.ofString "aAbB7") ((ns.sum.fdiv 5 + 2).fmod 5)) ty tt rul m9 _ (hA0.append (Al.from (by intro c hc; revert c; decide) (by omega))) ?_ ?_ ((Al_sign _).append (Al_sign _)) ?_ (by assumption) (fr_eq F10 ?_) (fun p hp => N9 p ?_) (show @LT.lt Nat _ _ _ from by omega)
    · rw [← ls_len, ls_append, List.length_append, ls_len, ls_from (by omega), List.length_drop]
      have : (ls (Str.ofString "bAB")).length = 3 := by decide
      omega
    · rw [← ls_len, ls_append, List.length_append, ls_len, ls_from (by omega), List.length_drop]
      have : (ls (Str.ofString "bAB")).length = 3 := by decide
      omega
    · rw [← ls_len, ls_append, List.length_append, ls_len, ls_len, len_item, len_item]
    · intro z
      by_cases h1 : z = Str.ofString "rulers"
      · subst h1; rw [hm9]; rfl
      · by_cases h2 : z = Str.ofString "word"
        · subst h2; rw [hm9]; rfl
        · by_cases h3 : z = Str.ofString "total"
          · subst h3; rw [hm9]; rfl
          · rw [if_neg h1, if_neg h2, if_neg h3]
    · rcases List.mem_cons.mp hp with rfl | hp
      · exact .head _
      · exact .tail _ (.tail _ (.tail _ hp))
end Mine
end

section
namespace Mine
theorem strs_at : ∀ {vs : List Value} {ss : List Str}, StrsAre vs ss → ∀ (i : Nat) (v : Value), vs[i]? = some v → ∃ z t, ss[i]? = some z ∧ v = Value.str z t
  | _, _, .nil, i, v, h => by cases h
  | _, _, .cons z t r, 0, v, h => ⟨z, t, rfl, (Option.some.inj h).symm⟩
  | _, _, .cons z t r, i + 1, v, h => strs_at r i v (by simpa using h)
theorem rowOf_len (ss : List Int) (k : Int) : (rowOf ss k).length ≤ ss.length + 2 := by
  unfold rowOf
  split
  · rw [List.length_append, List.length_take]; simp only [List.length_cons, List.length_nil]; omega
  · split
    · rw [List.length_take]; omega
    · have h1 := trimW_le (trim1 ss).length (trim1 ss)
      have h2 : (trim1 ss).length ≤ ss.length := by
        unfold trim1
        split
        · rw [List.length_take]; omega
        · exact Nat.le_refl _
      rw [List.length_append]
      simp only [List.length_cons, List.length_nil]
      omega
theorem mem_flat_len {g : List Nat} : ∀ {gs : List (List Nat)}, g ∈ gs → g.length ≤ gs.flatten.length
  | [], h => by cases h
  | a :: gs, h => by
    rw [List.flatten_cons, List.length_append]
    rcases List.mem_cons.mp h with rfl | h
    · omega
    · have := mem_flat_len h; omega
theorem SpR.use {w : World} {mean : ExcName → Option Value} {mg mb : Str → Option Value} {f : Addr} {Pre : List (Addr × Obj) → Prop} {vs : List Value} (H : SpR w mean mg mb f Pre vs)
    {news : List (Addr × Obj)} {dp un : Nat} {gd : Option (List Code)} {cn : Str} {cs : Scope} {a : Addr} {ccd : Value} {cl : List (Str × Addr)} {A₀ : Around} {base h₀ : Heap} {L : Addr} {m : Str → Option Value} {s : Shared} {Q E : Value → Shared → Prop}
    (B : Below A₀ base [] h₀) (F : Fr h₀ L s.heap m) (X : (hd.heap_39 w.params).In h₀) (N : News h₀ L s.heap news) (T : Top hd.view_39 (looseW hd.view_39 []) mean mg mb h₀) (hXT : (hd.heap_39 w.params).In base ∧ Top hd.view_39 (looseW hd.view_39 []) mean mg mb base) (hk : cs.kind = .function)
    (hdp : dp + 3 < recursionLimit) (hun : un + 40 < cLine) (hpre : Pre news)
    (ret : ∀ (h' : Heap) (tk' : Nat) (gens : Array GenState), Fr h₀ L h' m → News h₀ L h' news → (AllB s.gens → AllB gens) → Q (.bool true) { s with heap := h', toks := tk', gens := gens }) :
    wpAny (model Challenge.rw_ph0059_01.row.prog w) (ktrTop dp un gd cn cs L a ccd cl []) (call (.ref f) vs) Q E s := H _ _ _ _ _ _ _ _ _ _ _ _ _ _ _ _ _ B F X N T hXT hk hdp hun hpre ret
structure LwG where
  a : Addr
  vs : List Value
  ss : List Str
  e : Nat
theorem SpG.use {w : World} {mean : ExcName → Option Value} {mg mb : Str → Option Value} {f : Addr} {dd uu : Nat} {Pre : List (Addr × Obj) → Prop} {vs : List Value} {R : List (List Nat)} (H : SpG w mean mg mb f dd uu Pre vs R)
    {news : List (Addr × Obj)} {dp un : Nat} {gd : Option (List Code)} {cn : Str} {cs : Scope} {a : Addr} {ccd : Value} {cl : List (Str × Addr)} {outer : List Env} {A₀ : Around} {base h₀ : Heap} {L : Addr} {m : Str → Option Value} {s : Shared} {Q E : Value → Shared → Prop}
    (B : Below A₀ base outer h₀) (F : Fr h₀ L s.heap m) (X : (hd.heap_39 w.params).In h₀) (N : News h₀ L s.heap news) (T : Top hd.view_39 (looseW hd.view_39 []) mean mg mb h₀) (hk : cs.kind = .function)
    (hdp : dp + dd < recursionLimit) (hun : un + uu < cLine) (hpre : Pre news)
    (ret : ∀ (l : Addr) (us : List Value) (ss : List Str) (e : Nat) (h' : Heap) (tk' : Nat) (gens : Array GenState), Fr h₀ L h' m → News h₀ L h' ((l, PySem.W.listOf us.toArray e) :: news) → (∀ p ∈ news, p.1 < l) → StrsAre us ss → ss.map ls = R → (AllB s.gens → AllB gens) → Q (.ref l) { s with heap := h', toks := tk', gens := gens }) :
    wpAny (model Challenge.rw_ph0059_01.row.prog w) (ktrTop dp un gd cn cs L a ccd cl outer) (call (.ref f) vs) Q E s := H _ _ _ _ _ _ _ _ _ _ _ _ _ _ _ _ _ _ B F X N T hk hdp hun hpre ret
structure LwC where
  gs : List LwG
  e : Nat
  gens : Array GenState
  u : Str → Option Value
noncomputable def lwRefs (gs : List LwG) : List Value := gs.map fun g => Value.ref g.a
noncomputable def lwLed (gs : List LwG) : List (Addr × Obj) := gs.map fun g => (g.a, PySem.W.listOf g.vs.toArray g.e)
/-- the rulers made so far -/
noncomputable def LwOk (T : List Nat) (gs : List LwG) : Prop := ∀ (j : Nat) (g : LwG), gs[j]? = some g → StrsAre g.vs g.ss ∧ g.ss.map ls = ruler T j
theorem LwOk.snoc {T : List Nat} {gs : List LwG} (h : LwOk T gs) {g : LwG} (h1 : StrsAre g.vs g.ss) (h2 : g.ss.map ls = ruler T gs.length) : LwOk T (gs ++ [g]) := by
  intro j q hq
  rcases Nat.lt_or_ge j gs.length with hj | hj
  · rw [List.getElem?_append_left hj] at hq
    exact h j q hq
  · rw [List.getElem?_append_right hj] at hq
    obtain ⟨k, hk⟩ : ∃ k, j - gs.length = k := ⟨_, rfl⟩
    rw [hk] at hq
    cases k with
    | zero =>
      have : g = q := Option.some.inj hq
      subst this
      have e : j = gs.length := by exact om76 hj hk
      rw [e]
      exact ⟨h1, h2⟩
    | succ k => simp at hq
theorem phase2 (w : World) (mean : ExcName → Option Value) (mg mb : Str → Option Value) (dp un : Nat) (gd : Option (List Code)) (cd : Value) (L fa : Addr) (o1 o2 ot : Obj) (A₀ : Around) (base h₀ : Heap) (s : Shared) (Q : Flow → Shared → Prop)
    (tot : Int) (tt : Tok) (x : Str) (tx : Tok) (y : Str) (ty : Tok) (rul : Addr) (u : Str → Option Value)
    (hB : Below A₀ base [] h₀) (hF : Fr h₀ L s.heap (fun z => if z = Str.ofString "rulers" then some (Value.ref rul) else if z = Str.ofString "word" then some (Value.str y ty) else if z = Str.ofString "total" then some (Value.int tot tt) else u z))
    (hX : (hd.heap_39 w.params).In h₀) (hN : News h₀ L s.heap [(rul, PySem.W.listOf #[] 0), (L + 1 + 1 + 1, o1), (L + 1 + 1, o2), (L + 1, ot)]) (hT : Top hd.view_39 (looseW hd.view_39 []) mean mg mb h₀) (hXT : (hd.heap_39 w.params).In base ∧ Top hd.view_39 (looseW hd.view_39 []) mean mg mb base)
    (hrul : L + 1 + 1 + 1 < rul) (ax : Al x) (hx3 : 3 ≤ x.length) (hx : x.length ≤ 5) (hot : ot.data = .cell (some (.str x tx))) (hdp : dp + 20 < recursionLimit) (hun : un + 200 < cLine)
    (ret : ∀ (h' : Heap) (tk' : Nat) (u' : Str → Option Value) (gs : List LwG) (e : Nat) (gens : Array GenState), LwOk (ls x) gs → gs.length = 2 ^ (x.length - 1) → (AllB s.gens → AllB gens) → (∀ p ∈ lwLed gs, rul < p.1) →
      Fr h₀ L h' (fun z => if z = Str.ofString "rulers" then some (Value.ref rul) else if z = Str.ofString "word" then some (Value.str y ty) else if z = Str.ofString "total" then some (Value.int tot tt) else u' z) →
      News h₀ L h' ((rul, PySem.W.listOf (lwRefs gs).toArray e) :: (L + 1 + 1 + 1, o1) :: (L + 1 + 1, o2) :: (L + 1, ot) :: lwLed gs) → Q .next { s with heap := h', toks := tk', gens := gens }) :
    wpAny (model Challenge.rw_ph0059_01.row.prog w) (lawTop w dp un gd L fa cd) (execs (((lawDef w).body.drop 5).take 1) (lawEnv w L fa cd)) Q (fun _ _ => False) s := by
  k_fill
  (try dsimp only [lawDef, List.take, List.drop, lawTop, lawEnv, lawCl])
  w_on
  (repeat' (first | (k_unfold; (try dsimp only)) | ((((fail_if_success (with_reducible first | show wpAny _ _ (exec (Stmt.For _ _ _ _ _) _) _ _ _ | show wpAny _ _ (exec (Stmt.While _ _ _ _) _) _ _ _ | show wpAny _ _ (pyIter _) _ _ _ | show wpAny _ _ (call (Value.ref _) _ _) _ _ _ | show wpAny _ _ (eval (Expr.Subscript _ (Expr.Slice none (some (Expr.BoolOp _ _ _)) none _) _) _) _ _ _ | show wpAny _ _ (exec (Stmt.If _ [Stmt.Assign [Expr.Tuple _ _ _] _ _] _ _) _) _ _ _ | show wpAny _ _ (exec (Stmt.If (Expr.BoolOp _ _ _) [Stmt.Assign [Expr.Name _ _] (Expr.Subscript _ _ _) _] _ _) _) _ _ _)); fail_if_success (with_reducible first | show wpAny _ _ (eval (Expr.ListComp _ _ _ _) _) _ _ _ | show wpAny _ _ (exec (Stmt.Assign _ (Expr.ListComp _ _ _ _) _) _) _ _ _ | show LCg.CompSrc _ _ _ _ _ _ _ _ _ _ _ _ _ _ | show LCg.CompEnd _ _ _ _ _ _ _ _ _ _ _ _ _ _ | show wpAny _ _ (call (Value.builtin "max") _) _ _ _ | show LCp.SrcLP _ _ _ _ _ _ _ _ _ _ _ _ _ _ _))); walk1) | ((((fail_if_success (with_reducible first | show wpAny _ _ (exec (Stmt.For _ _ _ _ _) _) _ _ _ | show wpAny _ _ (exec (Stmt.While _ _ _ _) _) _ _ _ | show wpAny _ _ (pyIter _) _ _ _ | show wpAny _ _ (call (Value.ref _) _ _) _ _ _ | show wpAny _ _ (eval (Expr.Subscript _ (Expr.Slice none (some (Expr.BoolOp _ _ _)) none _) _) _) _ _ _ | show wpAny _ _ (exec (Stmt.If _ [Stmt.Assign [Expr.Tuple _ _ _] _ _] _ _) _) _ _ _ | show wpAny _ _ (exec (Stmt.If (Expr.BoolOp _ _ _) [Stmt.Assign [Expr.Name _ _] (Expr.Subscript _ _ _) _] _ _) _) _ _ _)); fail_if_success (with_reducible first | show wpAny _ _ (eval (Expr.ListComp _ _ _ _) _) _ _ _ | show wpAny _ _ (exec (Stmt.Assign _ (Expr.ListComp _ _ _ _) _) _) _ _ _ | show LCg.CompSrc _ _ _ _ _ _ _ _ _ _ _ _ _ _ | show LCg.CompEnd _ _ _ _ _ _ _ _ _ _ _ _ _ _ | show wpAny _ _ (call (Value.builtin "max") _) _ _ _ | show LCp.SrcLP _ _ _ _ _ _ _ _ _ _ _ _ _ _ _))); dsimp only; walk1) | (leave1; (try dsimp only)) | fail "no step"))
  refine owit_for ?_
  (repeat' (first | (k_unfold; (try dsimp only)) | ((((fail_if_success (with_reducible first | show wpAny _ _ (exec (Stmt.For _ _ _ _ _) _) _ _ _ | show wpAny _ _ (exec (Stmt.While _ _ _ _) _) _ _ _ | show wpAny _ _ (pyIter _) _ _ _ | show wpAny _ _ (call (Value.ref _) _ _) _ _ _ | show wpAny _ _ (eval (Expr.Subscript _ (Expr.Slice none (some (Expr.BoolOp _ _ _)) none _) _) _) _ _ _ | show wpAny _ _ (exec (Stmt.If _ [Stmt.Assign [Expr.Tuple _ _ _] _ _] _ _) _) _ _ _ | show wpAny _ _ (exec (Stmt.If (Expr.BoolOp _ _ _) [Stmt.Assign [Expr.Name _ _] (Expr.Subscript _ _ _) _] _ _) _) _ _ _)); fail_if_success (with_reducible first | show wpAny _ _ (eval (Expr.ListComp _ _ _ _) _) _ _ _ | show wpAny _ _ (exec (Stmt.Assign _ (Expr.ListComp _ _ _ _) _) _) _ _ _ | show LCg.CompSrc _ _ _ _ _ _ _ _ _ _ _ _ _ _ | show LCg.CompEnd _ _ _ _ _ _ _ _ _ _ _ _ _ _ | show wpAny _ _ (call (Value.builtin "max") _) _ _ _ | show LCp.SrcLP _ _ _ _ _ _ _ _ _ _ _ _ _ _ _))); walk1) | ((((fail_if_success (with_reducible first | show wpAny _ _ (exec (Stmt.For _ _ _ _ _) _) _ _ _ | show wpAny _ _ (exec (Stmt.While _ _ _ _) _) _ _ _ | show wpAny _ _ (pyIter _) _ _ _ | show wpAny _ _ (call (Value.ref _) _ _) _ _ _ | show wpAny _ _ (eval (Expr.Subscript _ (Expr.Slice none (some (Expr.BoolOp _ _ _)) none _) _) _) _ _ _ | show wpAny _ _ (exec (Stmt.If _ [Stmt.Assign [Expr.Tuple _ _ _] _ _] _ _) _) _ _ _ | show wpAny _ _ (exec (Stmt.If (Expr.BoolOp _ _ _) [Stmt.Assign [Expr.Name _ _] (Expr.Subscript _ _ _) _] _ _) _) _ _ _)); fail_if_success (with_reducible first | show wpAny _ _ (eval (Expr.ListComp _ _ _ _) _) _ _ _ | show wpAny _ _ (exec (Stmt.Assign _ (Expr.ListComp _ _ _ _) _) _) _ _ _ | show LCg.CompSrc _ _ _ _ _ _ _ _ _ _ _ _ _ _ | show LCg.CompEnd _ _ _ _ _ _ _ _ _ _ _ _ _ _ | show wpAny _ _ (call (Value.builtin "max") _) _ _ _ | show LCp.SrcLP _ _ _ _ _ _ _ _ _ _ _ _ _ _ _))); dsimp only; walk1) | (leave1; (try dsimp only)) | fail "no step"))
  rename Fr _ _ _ _ => F1
  rename News _ _ _ _ => N1
  rename IsRange _ _ _ _ _ _ _ _ => rgX
  (try dsimp only at rgX)
  have hn16 : 2 ^ (x.length - 1) ≤ 16 := Nat.le_trans (Nat.pow_le_pow_right (by decide) (show x.length - 1 ≤ 4 by exact om78 hx3 hx)) (by decide)
  have ep : (2 : Int) ^ ((x.length : Int) - 1).toNat = ((2 ^ (x.length - 1) : Nat) : Int) := by
    rw [show ((x.length : Int) - 1).toNat = x.length - 1 from Int.toNat_sub x.length 1]
    simp
  rw [ep] at rgX
  obtain ⟨n, hn⟩ : ∃ n, n = 2 ^ (x.length - 1) := ⟨_, rfl⟩
  rw [← hn] at rgX hn16 ret
  refine loop_range (σ := LwC) (n := n) (fun c => (rul, PySem.W.listOf (lwRefs c.gs).toArray c.e) :: (L + 1 + 1 + 1, o1) :: (L + 1 + 1, o2) :: (L + 1, ot) :: lwLed c.gs)
    (fun c z => if z = Str.ofString "rulers" then some (Value.ref rul) else if z = Str.ofString "word" then some (Value.str y ty) else if z = Str.ofString "total" then some (Value.int tot tt) else c.u z) (fun c => c.gens)
    (fun i c => LwOk (ls x) c.gs ∧ c.gs.length = i ∧ (AllB s.gens → AllB c.gens) ∧ (∀ p ∈ lwLed c.gs, rul < p.1)) ⟨[], 0, s.gens, u⟩ rfl rgX (small_one (by omega) (by omega) (by omega) (by omega)) (by rw [rangeSize_nat]; congr 1) (by omega) F1 (fun _ => rfl) N1 rfl ?qp ?qturn ?qdone
  case qp => exact ⟨(fun j g hq => nomatch hq), rfl, fun z => z, fun p hp => nomatch hp⟩
  case qdone =>
    intro c2 h tk hP F3 N3
    obtain ⟨hp1, hp2, hp3, hp4⟩ := hP
    (try dsimp only at F3 N3 ⊢)
    (repeat' (first | (k_unfold; (try dsimp only)) | ((((fail_if_success (with_reducible first | show wpAny _ _ (exec (Stmt.For _ _ _ _ _) _) _ _ _ | show wpAny _ _ (exec (Stmt.While _ _ _ _) _) _ _ _ | show wpAny _ _ (pyIter _) _ _ _ | show wpAny _ _ (call (Value.ref _) _ _) _ _ _ | show wpAny _ _ (eval (Expr.Subscript _ (Expr.Slice none (some (Expr.BoolOp _ _ _)) none _) _) _) _ _ _ | show wpAny _ _ (exec (Stmt.If _ [Stmt.Assign [Expr.Tuple _ _ _] _ _] _ _) _) _ _ _ | show wpAny _ _ (exec (Stmt.If (Expr.BoolOp _ _ _) [Stmt.Assign [Expr.Name _ _] (Expr.Subscript _ _ _) _] _ _) _) _ _ _)); fail_if_success (with_reducible first | show wpAny _ _ (eval (Expr.ListComp _ _ _ _) _) _ _ _ | show wpAny _ _ (exec (Stmt.Assign _ (Expr.ListComp _ _ _ _) _) _) _ _ _ | show LCg.CompSrc _ _ _ _ _ _ _ _ _ _ _ _ _ _ | show LCg.CompEnd _ _ _ _ _ _ _ _ _ _ _ _ _ _ | show wpAny _ _ (call (Value.builtin "max") _) _ _ _ | show LCp.SrcLP _ _ _ _ _ _ _ _ _ _ _ _ _ _ _))); walk1) | ((((fail_if_success (with_reducible first | show wpAny _ _ (exec (Stmt.For _ _ _ _ _) _) _ _ _ | show wpAny _ _ (exec (Stmt.While _ _ _ _) _) _ _ _ | show wpAny _ _ (pyIter _) _ _ _ | show wpAny _ _ (call (Value.ref _) _ _) _ _ _ | show wpAny _ _ (eval (Expr.Subscript _ (Expr.Slice none (some (Expr.BoolOp _ _ _)) none _) _) _) _ _ _ | show wpAny _ _ (exec (Stmt.If _ [Stmt.Assign [Expr.Tuple _ _ _] _ _] _ _) _) _ _ _ | show wpAny _ _ (exec (Stmt.If (Expr.BoolOp _ _ _) [Stmt.Assign [Expr.Name _ _] (Expr.Subscript _ _ _) _] _ _) _) _ _ _)); fail_if_success (with_reducible first | show wpAny _ _ (eval (Expr.ListComp _ _ _ _) _) _ _ _ | show wpAny _ _ (exec (Stmt.Assign _ (Expr.ListComp _ _ _ _) _) _) _ _ _ | show LCg.CompSrc _ _ _ _ _ _ _ _ _ _ _ _ _ _ | show LCg.CompEnd _ _ _ _ _ _ _ _ _ _ _ _ _ _ | show wpAny _ _ (call (Value.builtin "max") _) _ _ _ | show LCp.SrcLP _ _ _ _ _ _ _ _ _ _ _ _ _ _ _))); dsimp only; walk1) | (leave1; (try dsimp only)) | fail "no step"))
    exact ret _ _ _ _ _ _ hp1 hp2 hp3 hp4 (by assumption) (by assumption)
  case qturn =>
    intro i c2 t h tk I oI hi hP hne F3 N3
    obtain ⟨hp1, hp2, hp3, hp4⟩ := hP
    have hrul' : @LT.lt Nat _ (L + 1 + 1 + 1) rul := hrul
    have hI0 : @Ne Nat I rul := fun z => hne _ (.head _) z.symm
    have hI1 : @Ne Nat I (L + 1 + 1 + 1) := fun z => hne _ (.tail _ (.head _)) z.symm
    have hI2 : @Ne Nat I (L + 1 + 1) := fun z => hne _ (.tail _ (.tail _ (.head _))) z.symm
    have hI3 : @Ne Nat I (L + 1) := fun z => hne _ (.tail _ (.tail _ (.tail _ (.head _)))) z.symm
    have hIt : ∀ p ∈ lwLed c2.gs, p.1 ≠ I := fun p hp => hne p (.tail _ (.tail _ (.tail _ (.tail _ hp))))
    clear hne
    (try dsimp only at F3 N3 ⊢)
    obtain ⟨tl, htl⟩ : ∃ tl, tl = lwLed c2.gs := ⟨_, rfl⟩
    rw [← htl] at N3 hp4 hIt
    simp only [Int.zero_add]
    clear F1 N1 rgX ret
    (repeat' (first | (k_unfold; (try dsimp only)) | ((((fail_if_success (with_reducible first | show wpAny _ _ (exec (Stmt.For _ _ _ _ _) _) _ _ _ | show wpAny _ _ (exec (Stmt.While _ _ _ _) _) _ _ _ | show wpAny _ _ (pyIter _) _ _ _ | show wpAny _ _ (call (Value.ref _) _ _) _ _ _ | show wpAny _ _ (eval (Expr.Subscript _ (Expr.Slice none (some (Expr.BoolOp _ _ _)) none _) _) _) _ _ _ | show wpAny _ _ (exec (Stmt.If _ [Stmt.Assign [Expr.Tuple _ _ _] _ _] _ _) _) _ _ _ | show wpAny _ _ (exec (Stmt.If (Expr.BoolOp _ _ _) [Stmt.Assign [Expr.Name _ _] (Expr.Subscript _ _ _) _] _ _) _) _ _ _)); fail_if_success (with_reducible first | show wpAny _ _ (eval (Expr.ListComp _ _ _ _) _) _ _ _ | show wpAny _ _ (exec (Stmt.Assign _ (Expr.ListComp _ _ _ _) _) _) _ _ _ | show LCg.CompSrc _ _ _ _ _ _ _ _ _ _ _ _ _ _ | show LCg.CompEnd _ _ _ _ _ _ _ _ _ _ _ _ _ _ | show wpAny _ _ (call (Value.builtin "max") _) _ _ _ | show LCp.SrcLP _ _ _ _ _ _ _ _ _ _ _ _ _ _ _))); walk1) | ((((fail_if_success (with_reducible first | show wpAny _ _ (exec (Stmt.For _ _ _ _ _) _) _ _ _ | show wpAny _ _ (exec (Stmt.While _ _ _ _) _) _ _ _ | show wpAny _ _ (pyIter _) _ _ _ | show wpAny _ _ (call (Value.ref _) _ _) _ _ _ | show wpAny _ _ (eval (Expr.Subscript _ (Expr.Slice none (some (Expr.BoolOp _ _ _)) none _) _) _) _ _ _ | show wpAny _ _ (exec (Stmt.If _ [Stmt.Assign [Expr.Tuple _ _ _] _ _] _ _) _) _ _ _ | show wpAny _ _ (exec (Stmt.If (Expr.BoolOp _ _ _) [Stmt.Assign [Expr.Name _ _] (Expr.Subscript _ _ _) _] _ _) _) _ _ _)); fail_if_success (with_reducible first | show wpAny _ _ (eval (Expr.ListComp _ _ _ _) _) _ _ _ | show wpAny _ _ (exec (Stmt.Assign _ (Expr.ListComp _ _ _ _) _) _) _ _ _ | show LCg.CompSrc _ _ _ _ _ _ _ _ _ _ _ _ _ _ | show LCg.CompEnd _ _ _ _ _ _ _ _ _ _ _ _ _ _ | show wpAny _ _ (call (Value.builtin "max") _) _ _ _ | show LCp.SrcLP _ _ _ _ _ _ _ _ _ _ _ _ _ _ _))); dsimp only; walk1) | (leave1; (try dsimp only)) | fail "no step"))
    k_dflt (refine' SpL.use (sizes_spec _ _ _ _ x.length _ i _ (by exact om79 hx3 hx) (by omega) (by omega)) ?k1 ?k2 ?k3 ?k4 ?k5 ?kK ?kd ?ku True.intro ?_)
    (((case k1 | k2 | k3 | k4 | k5 => k_asm); (case kK => first | exact rfl | assumption); (case kd => first | exact Mine.room_up (by assumption) (by first | decide | omega) | exact Mine.room_0 (by assumption) (by first | decide | omega) | ktr_room); (case ku => first | exact Mine.room_up (by assumption) (by first | decide | omega) | exact Mine.room_0 (by assumption) (by first | decide | omega) | ktr_units)))
    intro ls1 us1 e1 h1 tk1 F5 N5 hlt1 hI1'
    (try dsimp only)
    (try k_fold)
    have hl1 := sizesOf_len i (x.length - 1)
    (try k_lt hlt1)
    (repeat' (first | (k_unfold; (try dsimp only)) | ((((fail_if_success (with_reducible first | show wpAny _ _ (exec (Stmt.For _ _ _ _ _) _) _ _ _ | show wpAny _ _ (exec (Stmt.While _ _ _ _) _) _ _ _ | show wpAny _ _ (pyIter _) _ _ _ | show wpAny _ _ (call (Value.ref _) _ _) _ _ _ | show wpAny _ _ (eval (Expr.Subscript _ (Expr.Slice none (some (Expr.BoolOp _ _ _)) none _) _) _) _ _ _ | show wpAny _ _ (exec (Stmt.If _ [Stmt.Assign [Expr.Tuple _ _ _] _ _] _ _) _) _ _ _ | show wpAny _ _ (exec (Stmt.If (Expr.BoolOp _ _ _) [Stmt.Assign [Expr.Name _ _] (Expr.Subscript _ _ _) _] _ _) _) _ _ _)); fail_if_success (with_reducible first | show wpAny _ _ (eval (Expr.ListComp _ _ _ _) _) _ _ _ | show wpAny _ _ (exec (Stmt.Assign _ (Expr.ListComp _ _ _ _) _) _) _ _ _ | show LCg.CompSrc _ _ _ _ _ _ _ _ _ _ _ _ _ _ | show LCg.CompEnd _ _ _ _ _ _ _ _ _ _ _ _ _ _ | show wpAny _ _ (call (Value.builtin "max") _) _ _ _ | show LCp.SrcLP _ _ _ _ _ _ _ _ _ _ _ _ _ _ _))); walk1) | ((((fail_if_success (with_reducible first | show wpAny _ _ (exec (Stmt.For _ _ _ _ _) _) _ _ _ | show wpAny _ _ (exec (Stmt.While _ _ _ _) _) _ _ _ | show wpAny _ _ (pyIter _) _ _ _ | show wpAny _ _ (call (Value.ref _) _ _) _ _ _ | show wpAny _ _ (eval (Expr.Subscript _ (Expr.Slice none (some (Expr.BoolOp _ _ _)) none _) _) _) _ _ _ | show wpAny _ _ (exec (Stmt.If _ [Stmt.Assign [Expr.Tuple _ _ _] _ _] _ _) _) _ _ _ | show wpAny _ _ (exec (Stmt.If (Expr.BoolOp _ _ _) [Stmt.Assign [Expr.Name _ _] (Expr.Subscript _ _ _) _] _ _) _) _ _ _)); fail_if_success (with_reducible first | show wpAny _ _ (eval (Expr.ListComp _ _ _ _) _) _ _ _ | show wpAny _ _ (exec (Stmt.Assign _ (Expr.ListComp _ _ _ _) _) _) _ _ _ | show LCg.CompSrc _ _ _ _ _ _ _ _ _ _ _ _ _ _ | show LCg.CompEnd _ _ _ _ _ _ _ _ _ _ _ _ _ _ | show wpAny _ _ (call (Value.builtin "max") _) _ _ _ | show LCp.SrcLP _ _ _ _ _ _ _ _ _ _ _ _ _ _ _))); dsimp only; walk1) | (leave1; (try dsimp only)) | fail "no step"))
    k_dflt (refine' SpL.use (row_spec _ _ _ _ ls1 us1 e1 (sizesOf i (x.length - 1)) _ _ hI1' hl1.1 (by omega)) ?k1 ?k2 ?k3 ?k4 ?k5 ?kK ?kd ?ku (.head _) ?_)
    (((case k1 | k2 | k3 | k4 | k5 => k_asm); (case kK => first | exact rfl | assumption); (case kd => first | exact Mine.room_up (by assumption) (by first | decide | omega) | exact Mine.room_0 (by assumption) (by first | decide | omega) | ktr_room); (case ku => first | exact Mine.room_up (by assumption) (by first | decide | omega) | exact Mine.room_0 (by assumption) (by first | decide | omega) | ktr_units)))
    intro ls2 us2 e2 h2 tk2 F6 N6 hlt2 hI2'
    (try dsimp only)
    (try k_fold)
    (try k_lt hlt2)
    have hk3 := fmod3 ((i : Int) + tot)
    obtain ⟨hr1, hr2, hr3⟩ := rowOk (T := ls x) (by rw [ls_len]; exact hx3) (by rw [ls_len]; exact hx) (bits := i) (by rw [ls_len, ← hn]; exact hi) hk3.1 hk3.2
    rw [ls_len] at hr1 hr2 hr3
    have hrl := rowOf_len (sizesOf i (x.length - 1)) (((i : Int) + tot).fmod 3)
    generalize rowOf (sizesOf i (x.length - 1)) (((i : Int) + tot).fmod 3) = rs at hI2' hr1 hr2 hr3 hrl ⊢
    replace hrl : rs.length ≤ 7 := by exact om80 hx3 hx hl1 hrl
    (repeat' (first | (k_unfold; (try dsimp only)) | ((((fail_if_success (with_reducible first | show wpAny _ _ (exec (Stmt.For _ _ _ _ _) _) _ _ _ | show wpAny _ _ (exec (Stmt.While _ _ _ _) _) _ _ _ | show wpAny _ _ (pyIter _) _ _ _ | show wpAny _ _ (call (Value.ref _) _ _) _ _ _ | show wpAny _ _ (eval (Expr.Subscript _ (Expr.Slice none (some (Expr.BoolOp _ _ _)) none _) _) _) _ _ _ | show wpAny _ _ (exec (Stmt.If _ [Stmt.Assign [Expr.Tuple _ _ _] _ _] _ _) _) _ _ _ | show wpAny _ _ (exec (Stmt.If (Expr.BoolOp _ _ _) [Stmt.Assign [Expr.Name _ _] (Expr.Subscript _ _ _) _] _ _) _) _ _ _)); fail_if_success (with_reducible first | show wpAny _ _ (eval (Expr.ListComp _ _ _ _) _) _ _ _ | show wpAny _ _ (exec (Stmt.Assign _ (Expr.ListComp _ _ _ _) _) _) _ _ _ | show LCg.CompSrc _ _ _ _ _ _ _ _ _ _ _ _ _ _ | show LCg.CompEnd _ _ _ _ _ _ _ _ _ _ _ _ _ _ | show wpAny _ _ (call (Value.builtin "max") _) _ _ _ | show LCp.SrcLP _ _ _ _ _ _ _ _ _ _ _ _ _ _ _))); walk1) | ((((fail_if_success (with_reducible first | show wpAny _ _ (exec (Stmt.For _ _ _ _ _) _) _ _ _ | show wpAny _ _ (exec (Stmt.While _ _ _ _) _) _ _ _ | show wpAny _ _ (pyIter _) _ _ _ | show wpAny _ _ (call (Value.ref _) _ _) _ _ _ | show wpAny _ _ (eval (Expr.Subscript _ (Expr.Slice none (some (Expr.BoolOp _ _ _)) none _) _) _) _ _ _ | show wpAny _ _ (exec (Stmt.If _ [Stmt.Assign [Expr.Tuple _ _ _] _ _] _ _) _) _ _ _ | show wpAny _ _ (exec (Stmt.If (Expr.BoolOp _ _ _) [Stmt.Assign [Expr.Name _ _] (Expr.Subscript _ _ _) _] _ _) _) _ _ _)); fail_if_success (with_reducible first | show wpAny _ _ (eval (Expr.ListComp _ _ _ _) _) _ _ _ | show wpAny _ _ (exec (Stmt.Assign _ (Expr.ListComp _ _ _ _) _) _) _ _ _ | show LCg.CompSrc _ _ _ _ _ _ _ _ _ _ _ _ _ _ | show LCg.CompEnd _ _ _ _ _ _ _ _ _ _ _ _ _ _ | show wpAny _ _ (call (Value.builtin "max") _) _ _ _ | show LCp.SrcLP _ _ _ _ _ _ _ _ _ _ _ _ _ _ _))); dsimp only; walk1) | (leave1; (try dsimp only)) | fail "no step"))
    k_dflt (refine' SpG.use (groups_spec _ _ _ _ ls2 us2 e2 rs _ _ hI2' hx hr2 hr3) ?k1 ?k2 ?k3 ?k4 ?k5 ?kK ?kd ?ku (.head _) ?_)
    (((case k1 | k2 | k3 | k4 | k5 => k_asm); (case kK => first | exact rfl | assumption); (case kd => first | exact Mine.room_up (by assumption) (by first | decide | omega) | exact Mine.room_0 (by assumption) (by first | decide | omega) | ktr_room); (case ku => first | exact Mine.room_up (by assumption) (by first | decide | omega) | exact Mine.room_0 (by assumption) (by first | decide | omega) | ktr_units)))
    intro ls3 us3 ss3 e3 h3 tk3 gens3 F7 N7 hlt3 hS3 hR3 hG3
    rw [hr1] at hR3
    (try dsimp only)
    (try k_fold)
    (try k_lt hlt3)
    (repeat' (first | (k_unfold; (try dsimp only)) | ((((fail_if_success (with_reducible first | show wpAny _ _ (exec (Stmt.For _ _ _ _ _) _) _ _ _ | show wpAny _ _ (exec (Stmt.While _ _ _ _) _) _ _ _ | show wpAny _ _ (pyIter _) _ _ _ | show wpAny _ _ (call (Value.ref _) _ _) _ _ _ | show wpAny _ _ (eval (Expr.Subscript _ (Expr.Slice none (some (Expr.BoolOp _ _ _)) none _) _) _) _ _ _ | show wpAny _ _ (exec (Stmt.If _ [Stmt.Assign [Expr.Tuple _ _ _] _ _] _ _) _) _ _ _ | show wpAny _ _ (exec (Stmt.If (Expr.BoolOp _ _ _) [Stmt.Assign [Expr.Name _ _] (Expr.Subscript _ _ _) _] _ _) _) _ _ _)); fail_if_success (with_reducible first | show wpAny _ _ (eval (Expr.ListComp _ _ _ _) _) _ _ _ | show wpAny _ _ (exec (Stmt.Assign _ (Expr.ListComp _ _ _ _) _) _) _ _ _ | show LCg.CompSrc _ _ _ _ _ _ _ _ _ _ _ _ _ _ | show LCg.CompEnd _ _ _ _ _ _ _ _ _ _ _ _ _ _ | show wpAny _ _ (call (Value.builtin "max") _) _ _ _ | show LCp.SrcLP _ _ _ _ _ _ _ _ _ _ _ _ _ _ _))); walk1) | ((((fail_if_success (with_reducible first | show wpAny _ _ (exec (Stmt.For _ _ _ _ _) _) _ _ _ | show wpAny _ _ (exec (Stmt.While _ _ _ _) _) _ _ _ | show wpAny _ _ (pyIter _) _ _ _ | show wpAny _ _ (call (Value.ref _) _ _) _ _ _ | show wpAny _ _ (eval (Expr.Subscript _ (Expr.Slice none (some (Expr.BoolOp _ _ _)) none _) _) _) _ _ _ | show wpAny _ _ (exec (Stmt.If _ [Stmt.Assign [Expr.Tuple _ _ _] _ _] _ _) _) _ _ _ | show wpAny _ _ (exec (Stmt.If (Expr.BoolOp _ _ _) [Stmt.Assign [Expr.Name _ _] (Expr.Subscript _ _ _) _] _ _) _) _ _ _)); fail_if_success (with_reducible first | show wpAny _ _ (eval (Expr.ListComp _ _ _ _) _) _ _ _ | show wpAny _ _ (exec (Stmt.Assign _ (Expr.ListComp _ _ _ _) _) _) _ _ _ | show LCg.CompSrc _ _ _ _ _ _ _ _ _ _ _ _ _ _ | show LCg.CompEnd _ _ _ _ _ _ _ _ _ _ _ _ _ _ | show wpAny _ _ (call (Value.builtin "max") _) _ _ _ | show LCp.SrcLP _ _ _ _ _ _ _ _ _ _ _ _ _ _ _))); dsimp only; walk1) | (leave1; (try dsimp only)) | fail "no step"))
    obtain ⟨hrf1, hrf2⟩ := ruler_flat (T := ls x) (by rw [ls_len]; exact om79 hx3 hx) i
    rw [ls_len] at hrf2
    have hl3 : us3.length = (sizesOf i (x.length - 1)).length := by
      rw [hS3.length, ← hrf2, ← hR3]
      unfold lens
      rw [List.length_map, List.length_map]
    k_dflt (refine LCg.ListComp_U (F₀ := by k_asm) (by with_unfolding_all rfl) (by decide) (by rfl) (by decide) (by rfl) ?_)
    (repeat' (first | (k_unfold; (try dsimp only)) | ((((fail_if_success (with_reducible first | show wpAny _ _ (exec (Stmt.For _ _ _ _ _) _) _ _ _ | show wpAny _ _ (exec (Stmt.While _ _ _ _) _) _ _ _ | show wpAny _ _ (pyIter _) _ _ _ | show wpAny _ _ (call (Value.ref _) _ _) _ _ _ | show wpAny _ _ (eval (Expr.Subscript _ (Expr.Slice none (some (Expr.BoolOp _ _ _)) none _) _) _) _ _ _ | show wpAny _ _ (exec (Stmt.If _ [Stmt.Assign [Expr.Tuple _ _ _] _ _] _ _) _) _ _ _ | show wpAny _ _ (exec (Stmt.If (Expr.BoolOp _ _ _) [Stmt.Assign [Expr.Name _ _] (Expr.Subscript _ _ _) _] _ _) _) _ _ _)); fail_if_success (with_reducible first | show wpAny _ _ (eval (Expr.ListComp _ _ _ _) _) _ _ _ | show wpAny _ _ (exec (Stmt.Assign _ (Expr.ListComp _ _ _ _) _) _) _ _ _ | show LCg.CompSrc _ _ _ _ _ _ _ _ _ _ _ _ _ _ | show LCg.CompEnd _ _ _ _ _ _ _ _ _ _ _ _ _ _ | show wpAny _ _ (call (Value.builtin "max") _) _ _ _ | show LCp.SrcLP _ _ _ _ _ _ _ _ _ _ _ _ _ _ _))); walk1) | ((((fail_if_success (with_reducible first | show wpAny _ _ (exec (Stmt.For _ _ _ _ _) _) _ _ _ | show wpAny _ _ (exec (Stmt.While _ _ _ _) _) _ _ _ | show wpAny _ _ (pyIter _) _ _ _ | show wpAny _ _ (call (Value.ref _) _ _) _ _ _ | show wpAny _ _ (eval (Expr.Subscript _ (Expr.Slice none (some (Expr.BoolOp _ _ _)) none _) _) _) _ _ _ | show wpAny _ _ (exec (Stmt.If _ [Stmt.Assign [Expr.Tuple _ _ _] _ _] _ _) _) _ _ _ | show wpAny _ _ (exec (Stmt.If (Expr.BoolOp _ _ _) [Stmt.Assign [Expr.Name _ _] (Expr.Subscript _ _ _) _] _ _) _) _ _ _)); fail_if_success (with_reducible first | show wpAny _ _ (eval (Expr.ListComp _ _ _ _) _) _ _ _ | show wpAny _ _ (exec (Stmt.Assign _ (Expr.ListComp _ _ _ _) _) _) _ _ _ | show LCg.CompSrc _ _ _ _ _ _ _ _ _ _ _ _ _ _ | show LCg.CompEnd _ _ _ _ _ _ _ _ _ _ _ _ _ _ | show wpAny _ _ (call (Value.builtin "max") _) _ _ _ | show LCp.SrcLP _ _ _ _ _ _ _ _ _ _ _ _ _ _ _))); dsimp only; walk1) | (leave1; (try dsimp only)) | fail "no step"))
    rename Fr _ _ _ _ => F8
    rename News _ _ _ _ => N8
    refine LCg.CompSrc.ledger (by rfl) F8 N8 (.head _) (by rw [sizeLine_eq, List.size_toArray]; exact om81 hx3 hx hl1 hl3) ?_
    intro g9
    refine comp_inv (fun j ys nw => nw = (ls3, PySem.W.listOf us3.toArray e3) :: (ls2, PySem.W.listOf us2.toArray e2) :: (ls1, PySem.W.listOf us1.toArray e1) :: (I, oI) :: (rul, PySem.W.listOf (lwRefs c2.gs).toArray c2.e) :: (L + 1 + 1 + 1, o1) :: (L + 1 + 1, o2) :: (L + 1, ot) :: tl ∧ IntsAre ys ((ss3.take j).map fun g => (g.length : Int))) ⟨rfl, .nil⟩ ?cfin ?cstep
    case cstep =>
      intro j ys nw v I4 oI4 C4 oC4 D4 m4 h4 tk4 E4 hj hInv hP4 hC4 hx4 F9 N9 off4 hne4
      obtain ⟨rfl, hys⟩ := hInv
      obtain ⟨z, tz, hz, rfl⟩ := strs_at hS3 j v (by simpa using hP4)
      (try dsimp only at F9 N9 ⊢)
      clear F8 N8
      have hz5 : z.length ≤ 5 := by
        have h1 : ls z ∈ ruler (ls x) i := by rw [← hR3]; exact List.mem_map_of_mem (List.mem_of_getElem? hz)
        have h2 := mem_flat_len h1
        rw [hrf1, ls_len, ls_len] at h2
        exact om82 hx3 hx h2
      (repeat' (first | (k_unfold; (try dsimp only)) | ((((fail_if_success (with_reducible first | show wpAny _ _ (exec (Stmt.For _ _ _ _ _) _) _ _ _ | show wpAny _ _ (exec (Stmt.While _ _ _ _) _) _ _ _ | show wpAny _ _ (pyIter _) _ _ _ | show wpAny _ _ (call (Value.ref _) _ _) _ _ _ | show wpAny _ _ (eval (Expr.Subscript _ (Expr.Slice none (some (Expr.BoolOp _ _ _)) none _) _) _) _ _ _ | show wpAny _ _ (exec (Stmt.If _ [Stmt.Assign [Expr.Tuple _ _ _] _ _] _ _) _) _ _ _ | show wpAny _ _ (exec (Stmt.If (Expr.BoolOp _ _ _) [Stmt.Assign [Expr.Name _ _] (Expr.Subscript _ _ _) _] _ _) _) _ _ _)); fail_if_success (with_reducible first | show wpAny _ _ (eval (Expr.ListComp _ _ _ _) _) _ _ _ | show wpAny _ _ (exec (Stmt.Assign _ (Expr.ListComp _ _ _ _) _) _) _ _ _ | show LCg.CompSrc _ _ _ _ _ _ _ _ _ _ _ _ _ _ | show LCg.CompEnd _ _ _ _ _ _ _ _ _ _ _ _ _ _ | show wpAny _ _ (call (Value.builtin "max") _) _ _ _ | show LCp.SrcLP _ _ _ _ _ _ _ _ _ _ _ _ _ _ _))); walk1) | ((((fail_if_success (with_reducible first | show wpAny _ _ (exec (Stmt.For _ _ _ _ _) _) _ _ _ | show wpAny _ _ (exec (Stmt.While _ _ _ _) _) _ _ _ | show wpAny _ _ (pyIter _) _ _ _ | show wpAny _ _ (call (Value.ref _) _ _) _ _ _ | show wpAny _ _ (eval (Expr.Subscript _ (Expr.Slice none (some (Expr.BoolOp _ _ _)) none _) _) _) _ _ _ | show wpAny _ _ (exec (Stmt.If _ [Stmt.Assign [Expr.Tuple _ _ _] _ _] _ _) _) _ _ _ | show wpAny _ _ (exec (Stmt.If (Expr.BoolOp _ _ _) [Stmt.Assign [Expr.Name _ _] (Expr.Subscript _ _ _) _] _ _) _) _ _ _)); fail_if_success (with_reducible first | show wpAny _ _ (eval (Expr.ListComp _ _ _ _) _) _ _ _ | show wpAny _ _ (exec (Stmt.Assign _ (Expr.ListComp _ _ _ _) _) _) _ _ _ | show LCg.CompSrc _ _ _ _ _ _ _ _ _ _ _ _ _ _ | show LCg.CompEnd _ _ _ _ _ _ _ _ _ _ _ _ _ _ | show wpAny _ _ (call (Value.builtin "max") _) _ _ _ | show LCp.SrcLP _ _ _ _ _ _ _ _ _ _ _ _ _ _ _))); dsimp only; walk1) | (leave1; (try dsimp only)) | fail "no step"))
      rename Fr _ _ _ _ => F10
      rename News _ _ _ _ => N10
      refine ⟨_, _, _, rfl, F10, N10, off4, .inr ⟨_, .head _, rfl, _, rfl⟩, rfl, ?_⟩
      rw [List.take_add_one, hz, List.map_append]
      exact IntsAre.append hys (.cons _ _ .nil)
    case cfin =>
      intro ys nw hInv
      obtain ⟨rfl, hys⟩ := hInv
      have hcl : List.map (fun g => (g.length : Int)) (List.take us3.toArray.size ss3) = sizesOf i (x.length - 1) := by
        rw [List.size_toArray, hS3.length, List.take_length, ← hrf2, ← hR3]
        unfold lens
        rw [List.map_map]
        apply List.map_congr_left
        intro g _
        show _ = ((ls g).length : Int)
        rw [ls_len]
      rw [hcl] at hys
      unfold LCg.FinE
      intro D5 h5 tk5 F9 N9 off5
      simp only [LCg.Off1] at off5
      clear F8 N8
      (repeat' (first | (k_unfold; (try dsimp only)) | ((((fail_if_success (with_reducible first | show wpAny _ _ (exec (Stmt.For _ _ _ _ _) _) _ _ _ | show wpAny _ _ (exec (Stmt.While _ _ _ _) _) _ _ _ | show wpAny _ _ (pyIter _) _ _ _ | show wpAny _ _ (call (Value.ref _) _ _) _ _ _ | show wpAny _ _ (eval (Expr.Subscript _ (Expr.Slice none (some (Expr.BoolOp _ _ _)) none _) _) _) _ _ _ | show wpAny _ _ (exec (Stmt.If _ [Stmt.Assign [Expr.Tuple _ _ _] _ _] _ _) _) _ _ _ | show wpAny _ _ (exec (Stmt.If (Expr.BoolOp _ _ _) [Stmt.Assign [Expr.Name _ _] (Expr.Subscript _ _ _) _] _ _) _) _ _ _)); fail_if_success (with_reducible first | show wpAny _ _ (eval (Expr.ListComp _ _ _ _) _) _ _ _ | show wpAny _ _ (exec (Stmt.Assign _ (Expr.ListComp _ _ _ _) _) _) _ _ _ | show LCg.CompSrc _ _ _ _ _ _ _ _ _ _ _ _ _ _ | show LCg.CompEnd _ _ _ _ _ _ _ _ _ _ _ _ _ _ | show wpAny _ _ (call (Value.builtin "max") _) _ _ _ | show LCp.SrcLP _ _ _ _ _ _ _ _ _ _ _ _ _ _ _))); walk1) | ((((fail_if_success (with_reducible first | show wpAny _ _ (exec (Stmt.For _ _ _ _ _) _) _ _ _ | show wpAny _ _ (exec (Stmt.While _ _ _ _) _) _ _ _ | show wpAny _ _ (pyIter _) _ _ _ | show wpAny _ _ (call (Value.ref _) _ _) _ _ _ | show wpAny _ _ (eval (Expr.Subscript _ (Expr.Slice none (some (Expr.BoolOp _ _ _)) none _) _) _) _ _ _ | show wpAny _ _ (exec (Stmt.If _ [Stmt.Assign [Expr.Tuple _ _ _] _ _] _ _) _) _ _ _ | show wpAny _ _ (exec (Stmt.If (Expr.BoolOp _ _ _) [Stmt.Assign [Expr.Name _ _] (Expr.Subscript _ _ _) _] _ _) _) _ _ _)); fail_if_success (with_reducible first | show wpAny _ _ (eval (Expr.ListComp _ _ _ _) _) _ _ _ | show wpAny _ _ (exec (Stmt.Assign _ (Expr.ListComp _ _ _ _) _) _) _ _ _ | show LCg.CompSrc _ _ _ _ _ _ _ _ _ _ _ _ _ _ | show LCg.CompEnd _ _ _ _ _ _ _ _ _ _ _ _ _ _ | show wpAny _ _ (call (Value.builtin "max") _) _ _ _ | show LCp.SrcLP _ _ _ _ _ _ _ _ _ _ _ _ _ _ _))); dsimp only; walk1) | (leave1; (try dsimp only)) | fail "no step"))
      rename Fr _ _ _ _ => F10
      rename News _ _ _ _ => N10
      rename IntsAre _ (_ ++ rs) => hI6
      refine led_name N10 ?_
      intro D6 e
      subst e
      k_dflt (refine' SpR.use (refused_spec _ _ _ _ D6 _ 0 _ hI6 rfl) ?k1 ?k2 ?k3 ?k4 ?k5 hXT ?kK ?kd ?ku (.head _) ?_)
      (((case k1 | k2 | k3 | k4 | k5 => k_asm); (case kK => first | exact rfl | assumption); (case kd => first | exact Mine.room_up (by assumption) (by first | decide | omega) | exact Mine.room_0 (by assumption) (by first | decide | omega) | ktr_room); (case ku => first | exact Mine.room_up (by assumption) (by first | decide | omega) | exact Mine.room_0 (by assumption) (by first | decide | omega) | ktr_units)))
      intro h7 tk7 gens7 F11 N11 hG7
      (try dsimp only)
      (try k_fold)
      clear F10 N10
      (repeat' (first | (k_unfold; (try dsimp only)) | ((((fail_if_success (with_reducible first | show wpAny _ _ (exec (Stmt.For _ _ _ _ _) _) _ _ _ | show wpAny _ _ (exec (Stmt.While _ _ _ _) _) _ _ _ | show wpAny _ _ (pyIter _) _ _ _ | show wpAny _ _ (call (Value.ref _) _ _) _ _ _ | show wpAny _ _ (eval (Expr.Subscript _ (Expr.Slice none (some (Expr.BoolOp _ _ _)) none _) _) _) _ _ _ | show wpAny _ _ (exec (Stmt.If _ [Stmt.Assign [Expr.Tuple _ _ _] _ _] _ _) _) _ _ _ | show wpAny _ _ (exec (Stmt.If (Expr.BoolOp _ _ _) [Stmt.Assign [Expr.Name _ _] (Expr.Subscript _ _ _) _] _ _) _) _ _ _)); fail_if_success (with_reducible first | show wpAny _ _ (eval (Expr.ListComp _ _ _ _) _) _ _ _ | show wpAny _ _ (exec (Stmt.Assign _ (Expr.ListComp _ _ _ _) _) _) _ _ _ | show LCg.CompSrc _ _ _ _ _ _ _ _ _ _ _ _ _ _ | show LCg.CompEnd _ _ _ _ _ _ _ _ _ _ _ _ _ _ | show wpAny _ _ (call (Value.builtin "max") _) _ _ _ | show LCp.SrcLP _ _ _ _ _ _ _ _ _ _ _ _ _ _ _))); walk1) | ((((fail_if_success (with_reducible first | show wpAny _ _ (exec (Stmt.For _ _ _ _ _) _) _ _ _ | show wpAny _ _ (exec (Stmt.While _ _ _ _) _) _ _ _ | show wpAny _ _ (pyIter _) _ _ _ | show wpAny _ _ (call (Value.ref _) _ _) _ _ _ | show wpAny _ _ (eval (Expr.Subscript _ (Expr.Slice none (some (Expr.BoolOp _ _ _)) none _) _) _) _ _ _ | show wpAny _ _ (exec (Stmt.If _ [Stmt.Assign [Expr.Tuple _ _ _] _ _] _ _) _) _ _ _ | show wpAny _ _ (exec (Stmt.If (Expr.BoolOp _ _ _) [Stmt.Assign [Expr.Name _ _] (Expr.Subscript _ _ _) _] _ _) _) _ _ _)); fail_if_success (with_reducible first | show wpAny _ _ (eval (Expr.ListComp _ _ _ _) _) _ _ _ | show wpAny _ _ (exec (Stmt.Assign _ (Expr.ListComp _ _ _ _) _) _) _ _ _ | show LCg.CompSrc _ _ _ _ _ _ _ _ _ _ _ _ _ _ | show LCg.CompEnd _ _ _ _ _ _ _ _ _ _ _ _ _ _ | show wpAny _ _ (call (Value.builtin "max") _) _ _ _ | show LCp.SrcLP _ _ _ _ _ _ _ _ _ _ _ _ _ _ _))); dsimp only; walk1) | (leave1; (try dsimp only)) | fail "no step"))
      rename (_ < D6 ∧ _) => hD6c
      rename (D5 < _ ∧ _) => hlc
      have hnt : ∀ p ∈ tl, p.1 ≠ rul := fun p hp => Nat.ne_of_gt (hp4 p hp)
      have hrv : (lwRefs c2.gs).length = c2.gs.length := List.length_map _
      refine append_K F11 N11 (Upd.tail (Nat.ne_of_gt hD6c.2.2.2.2.2.2.1) (Upd.tail (Nat.ne_of_gt hlc.2.2.2.2.2.1) (Upd.tail (Ne.symm off5.2.2.2.2.1) (Upd.tail (Nat.ne_of_gt hlt3.2.2.2.1) (Upd.tail (Nat.ne_of_gt hlt2.2.2.1) (Upd.tail (Nat.ne_of_gt hlt1.2.1) (Upd.tail hI0 (Upd.head ?hup)))))))) ?_ (by simp only [List.size_toArray]; rw [sizeLine_eq]; exact om83 hn16 hi hp2 hrv)
      case hup =>
        exact List.forall_mem_cons.mpr ⟨Nat.ne_of_lt hrul', List.forall_mem_cons.mpr ⟨Nat.ne_of_lt (Nat.lt_trans (Nat.lt_succ_self _) hrul'), List.forall_mem_cons.mpr ⟨Nat.ne_of_lt (Nat.lt_trans (Nat.lt_trans (Nat.lt_succ_self _) (Nat.lt_succ_self _)) hrul'), hnt⟩⟩⟩
      intro h8 F12 N12
      simp only [List.push_toArray] at N12
      clear F11 N11
      (repeat' (first | (k_unfold; (try dsimp only)) | ((((fail_if_success (with_reducible first | show wpAny _ _ (exec (Stmt.For _ _ _ _ _) _) _ _ _ | show wpAny _ _ (exec (Stmt.While _ _ _ _) _) _ _ _ | show wpAny _ _ (pyIter _) _ _ _ | show wpAny _ _ (call (Value.ref _) _ _) _ _ _ | show wpAny _ _ (eval (Expr.Subscript _ (Expr.Slice none (some (Expr.BoolOp _ _ _)) none _) _) _) _ _ _ | show wpAny _ _ (exec (Stmt.If _ [Stmt.Assign [Expr.Tuple _ _ _] _ _] _ _) _) _ _ _ | show wpAny _ _ (exec (Stmt.If (Expr.BoolOp _ _ _) [Stmt.Assign [Expr.Name _ _] (Expr.Subscript _ _ _) _] _ _) _) _ _ _)); fail_if_success (with_reducible first | show wpAny _ _ (eval (Expr.ListComp _ _ _ _) _) _ _ _ | show wpAny _ _ (exec (Stmt.Assign _ (Expr.ListComp _ _ _ _) _) _) _ _ _ | show LCg.CompSrc _ _ _ _ _ _ _ _ _ _ _ _ _ _ | show LCg.CompEnd _ _ _ _ _ _ _ _ _ _ _ _ _ _ | show wpAny _ _ (call (Value.builtin "max") _) _ _ _ | show LCp.SrcLP _ _ _ _ _ _ _ _ _ _ _ _ _ _ _))); walk1) | ((((fail_if_success (with_reducible first | show wpAny _ _ (exec (Stmt.For _ _ _ _ _) _) _ _ _ | show wpAny _ _ (exec (Stmt.While _ _ _ _) _) _ _ _ | show wpAny _ _ (pyIter _) _ _ _ | show wpAny _ _ (call (Value.ref _) _ _) _ _ _ | show wpAny _ _ (eval (Expr.Subscript _ (Expr.Slice none (some (Expr.BoolOp _ _ _)) none _) _) _) _ _ _ | show wpAny _ _ (exec (Stmt.If _ [Stmt.Assign [Expr.Tuple _ _ _] _ _] _ _) _) _ _ _ | show wpAny _ _ (exec (Stmt.If (Expr.BoolOp _ _ _) [Stmt.Assign [Expr.Name _ _] (Expr.Subscript _ _ _) _] _ _) _) _ _ _)); fail_if_success (with_reducible first | show wpAny _ _ (eval (Expr.ListComp _ _ _ _) _) _ _ _ | show wpAny _ _ (exec (Stmt.Assign _ (Expr.ListComp _ _ _ _) _) _) _ _ _ | show LCg.CompSrc _ _ _ _ _ _ _ _ _ _ _ _ _ _ | show LCg.CompEnd _ _ _ _ _ _ _ _ _ _ _ _ _ _ | show wpAny _ _ (call (Value.builtin "max") _) _ _ _ | show LCp.SrcLP _ _ _ _ _ _ _ _ _ _ _ _ _ _ _))); dsimp only; walk1) | (leave1; (try dsimp only)) | fail "no step"))
      rename Fr _ _ _ _ => F13
      rename News _ _ _ _ => N13
      obtain ⟨m9, F14, hm9⟩ : ∃ m9, Fr h₀ L _ m9 ∧ ∀ z, m9 z = if z = Str.ofString "groups" then some (Value.ref ls3) else if z = Str.ofString "row" then some (Value.ref ls2) else if z = Str.ofString "sizes" then some (Value.ref ls1) else if z = Str.ofString "bits" then some (Value.int (i : Int) t) else if z = Str.ofString "rulers" then some (Value.ref rul) else if z = Str.ofString "word" then some (Value.str y ty) else if z = Str.ofString "total" then some (Value.int tot tt) else c2.u z := ⟨_, F13, fun _ => rfl⟩
      have er : lwRefs (c2.gs ++ [⟨ls3, us3, ss3, e3⟩]) = lwRefs c2.gs ++ [Value.ref ls3] := List.map_append
      have el : lwLed (c2.gs ++ [⟨ls3, us3, ss3, e3⟩]) = tl ++ [(ls3, PySem.W.listOf us3.toArray e3)] := by rw [htl]; exact List.map_append
      refine ⟨⟨c2.gs ++ [⟨ls3, us3, ss3, e3⟩], c2.e + 1, gens7, m9⟩, _, _, _, _, rfl, F14, ?_, N13, ?_, .tail _ (.tail _ (.tail _ (.tail _ (.tail _ (.tail _ (.head _)))))), ?_, ⟨hp1.snoc hS3 (by rw [hR3, hp2]), ?_, fun z => hG7 (hG3 (hp3 z)), ?_⟩⟩
      · intro z
        (try dsimp only)
        by_cases h1 : z = Str.ofString "rulers"
        · subst h1; rw [hm9]; rfl
        · by_cases h2 : z = Str.ofString "word"
          · subst h2; rw [hm9]; rfl
          · by_cases h3 : z = Str.ofString "total"
            · subst h3; rw [hm9]; rfl
            · rw [if_neg h1, if_neg h2, if_neg h3]
      · (try dsimp only)
        rw [er, el]
        intro p hp
        rcases List.mem_cons.mp hp with rfl | hp
        · exact .tail _ (.tail _ (.tail _ (.tail _ (.tail _ (.tail _ (.tail _ (.head _)))))))
        · rcases List.mem_cons.mp hp with rfl | hp
          · exact .tail _ (.tail _ (.tail _ (.tail _ (.tail _ (.tail _ (.tail _ (.tail _ (.head _))))))))
          · rcases List.mem_cons.mp hp with rfl | hp
            · exact .tail _ (.tail _ (.tail _ (.tail _ (.tail _ (.tail _ (.tail _ (.tail _ (.tail _ (.head _)))))))))
            · rcases List.mem_cons.mp hp with rfl | hp
              · exact .tail _ (.tail _ (.tail _ (.tail _ (.tail _ (.tail _ (.tail _ (.tail _ (.tail _ (.tail _ (.head _))))))))))
              · rcases List.mem_append.mp hp with hp | hp
                · exact .tail _ (.tail _ (.tail _ (.tail _ (.tail _ (.tail _ (.tail _ (.tail _ (.tail _ (.tail _ (.tail _ hp))))))))))
                · rw [List.mem_singleton.mp hp]
                  exact .tail _ (.tail _ (.tail _ (.head _)))
      · (try dsimp only)
        rw [er, el]
        intro p hp
        rcases List.mem_cons.mp hp with rfl | hp
        · exact hI0.symm
        · rcases List.mem_cons.mp hp with rfl | hp
          · exact hI1.symm
          · rcases List.mem_cons.mp hp with rfl | hp
            · exact hI2.symm
            · rcases List.mem_cons.mp hp with rfl | hp
              · exact hI3.symm
              · rcases List.mem_append.mp hp with hp | hp
                · exact hIt p hp
                · rw [List.mem_singleton.mp hp]
                  exact Nat.ne_of_gt hlt3.2.2.1
      · rw [List.length_append, hp2]; rfl
      · rw [el]
        intro p hp
        rcases List.mem_append.mp hp with hp | hp
        · exact hp4 p hp
        · rw [List.mem_singleton.mp hp]
          exact hlt3.2.2.2.1
end Mine
end

section
namespace Mine
theorem SpT.use {w : World} {mean : ExcName → Option Value} {mg mb : Str → Option Value} {f : Addr} {dd uu : Nat} {vs : List Value} {W : List Nat} {x : Str} (H : SpT w mean mg mb f dd uu vs W x)
    {news : List (Addr × Obj)} {dp un : Nat} {gd : Option (List Code)} {cn : Str} {cs : Scope} {a : Addr} {ccd : Value} {cl : List (Str × Addr)} {outer : List Env} {A₀ : Around} {base h₀ : Heap} {L : Addr} {m : Str → Option Value} {s : Shared} {Q E : Value → Shared → Prop}
    (B : Below A₀ base outer h₀) (F : Fr h₀ L s.heap m) (X : (hd.heap_39 w.params).In h₀) (N : News h₀ L s.heap news) (T : Top hd.view_39 (looseW hd.view_39 []) mean mg mb h₀) (hk : cs.kind = .function)
    (hdp : dp + dd < recursionLimit) (hun : un + uu < cLine)
    (ret : ∀ (d : Addr) (o : Obj) (c : List (Str × Int)) (h' : Heap) (tk' : Nat), Fr h₀ L h' m → News h₀ L h' ((d, o) :: news) → (∀ p ∈ news, p.1 < d) → (d == sysModules) = false → TDict w o c → Tells' W c → (∀ i j : Nat, i < j → j ≤ x.length → kdpHas c (Txt.slice x (some (i : Int)) (some (j : Int))) = true) → c.length ≤ 25 → Q (.ref d) { s with heap := h', toks := tk' }) :
    wpAny (model Challenge.rw_ph0059_01.row.prog w) (ktrTop dp un gd cn cs L a ccd cl outer) (call (.ref f) vs) Q E s := H _ _ _ _ _ _ _ _ _ _ _ _ _ _ _ _ _ _ B F X N T hk hdp hun ret
theorem phase3a (w : World) (mean : ExcName → Option Value) (mg mb : Str → Option Value) (dp un : Nat) (gd : Option (List Code)) (cd : Value) (L fa : Addr) (o1 o2 ot : Obj) (A₀ : Around) (base h₀ : Heap) (s : Shared) (Q : Flow → Shared → Prop)
    (tot : Int) (tt : Tok) (x : Str) (tx : Tok) (y : Str) (ty : Tok) (rul : Addr) (orul : Obj) (tl : List (Addr × Obj)) (u : Str → Option Value)
    (hB : Below A₀ base [] h₀) (hF : Fr h₀ L s.heap (fun z => if z = Str.ofString "rulers" then some (Value.ref rul) else if z = Str.ofString "word" then some (Value.str y ty) else if z = Str.ofString "total" then some (Value.int tot tt) else u z))
    (hX : (hd.heap_39 w.params).In h₀) (hN : News h₀ L s.heap ((rul, orul) :: (L + 1 + 1 + 1, o1) :: (L + 1 + 1, o2) :: (L + 1, ot) :: tl)) (hT : Top hd.view_39 (looseW hd.view_39 []) mean mg mb h₀)
    (hrul : L + 1 + 1 + 1 < rul) (htl : ∀ p ∈ tl, rul < p.1) (ax : Al x) (hx3 : 3 ≤ x.length) (hx : x.length ≤ 5) (ay : Al y) (hy : y.length = 2) (hot : ot.data = .cell (some (.str x tx))) (ho2 : o2.data = .cell none) (hdp : dp + 20 < recursionLimit) (hun : un + 200 < cLine)
    (ret : ∀ (h' : Heap) (tk' : Nat) (d : Addr) (o oc : Obj) (c : List (Str × Int)), (∀ p ∈ (rul, orul) :: (L + 1 + 1 + 1, o1) :: (L + 1 + 1, oc) :: (L + 1, ot) :: tl, p.1 < d) → (d == sysModules) = false → TDict w o c → Tells' (ls y) c → (∀ i j : Nat, i < j → j ≤ x.length → kdpHas c (Txt.slice x (some (i : Int)) (some (j : Int))) = true) → oc.data = .cell (some (.ref d)) →
      Fr h₀ L h' (fun z => if z = Str.ofString "rulers" then some (Value.ref rul) else if z = Str.ofString "word" then some (Value.str y ty) else if z = Str.ofString "total" then some (Value.int tot tt) else u z) →
      News h₀ L h' ((d, o) :: (rul, orul) :: (L + 1 + 1 + 1, o1) :: (L + 1 + 1, oc) :: (L + 1, ot) :: tl) → Q .next { s with heap := h', toks := tk' }) :
    wpAny (model Challenge.rw_ph0059_01.row.prog w) (lawTop w dp un gd L fa cd) (execs (((lawDef w).body.drop 6).take 2) (lawEnv w L fa cd)) Q (fun _ _ => False) s := by
  k_fill
  (try dsimp only [lawDef, List.take, List.drop, lawTop, lawEnv, lawCl])
  w_on
  have hrul' : @LT.lt Nat _ (L + 1 + 1 + 1) rul := hrul
  (repeat' (first | (k_unfold; (try dsimp only)) | ((((fail_if_success (with_reducible first | show wpAny _ _ (exec (Stmt.For _ _ _ _ _) _) _ _ _ | show wpAny _ _ (exec (Stmt.While _ _ _ _) _) _ _ _ | show wpAny _ _ (pyIter _) _ _ _ | show wpAny _ _ (call (Value.ref _) _ _) _ _ _ | show wpAny _ _ (eval (Expr.Subscript _ (Expr.Slice none (some (Expr.BoolOp _ _ _)) none _) _) _) _ _ _ | show wpAny _ _ (exec (Stmt.If _ [Stmt.Assign [Expr.Tuple _ _ _] _ _] _ _) _) _ _ _ | show wpAny _ _ (exec (Stmt.If (Expr.BoolOp _ _ _) [Stmt.Assign [Expr.Name _ _] (Expr.Subscript _ _ _) _] _ _) _) _ _ _)); fail_if_success (with_reducible first | show wpAny _ _ (eval (Expr.ListComp _ _ _ _) _) _ _ _ | show wpAny _ _ (exec (Stmt.Assign _ (Expr.ListComp _ _ _ _) _) _) _ _ _ | show LCg.CompSrc _ _ _ _ _ _ _ _ _ _ _ _ _ _ | show LCg.CompEnd _ _ _ _ _ _ _ _ _ _ _ _ _ _ | show wpAny _ _ (call (Value.builtin "max") _) _ _ _ | show LCp.SrcLP _ _ _ _ _ _ _ _ _ _ _ _ _ _ _))); walk1) | ((((fail_if_success (with_reducible first | show wpAny _ _ (exec (Stmt.For _ _ _ _ _) _) _ _ _ | show wpAny _ _ (exec (Stmt.While _ _ _ _) _) _ _ _ | show wpAny _ _ (pyIter _) _ _ _ | show wpAny _ _ (call (Value.ref _) _ _) _ _ _ | show wpAny _ _ (eval (Expr.Subscript _ (Expr.Slice none (some (Expr.BoolOp _ _ _)) none _) _) _) _ _ _ | show wpAny _ _ (exec (Stmt.If _ [Stmt.Assign [Expr.Tuple _ _ _] _ _] _ _) _) _ _ _ | show wpAny _ _ (exec (Stmt.If (Expr.BoolOp _ _ _) [Stmt.Assign [Expr.Name _ _] (Expr.Subscript _ _ _) _] _ _) _) _ _ _)); fail_if_success (with_reducible first | show wpAny _ _ (eval (Expr.ListComp _ _ _ _) _) _ _ _ | show wpAny _ _ (exec (Stmt.Assign _ (Expr.ListComp _ _ _ _) _) _) _ _ _ | show LCg.CompSrc _ _ _ _ _ _ _ _ _ _ _ _ _ _ | show LCg.CompEnd _ _ _ _ _ _ _ _ _ _ _ _ _ _ | show wpAny _ _ (call (Value.builtin "max") _) _ _ _ | show LCp.SrcLP _ _ _ _ _ _ _ _ _ _ _ _ _ _ _))); dsimp only; walk1) | (leave1; (try dsimp only)) | fail "no step"))
  k_dflt (refine' SpT.use (told_spec _ _ _ _ y _ x _ tot _ hy hx3 hx ax ay) ?k1 ?k2 ?k3 ?k4 ?k5 ?kK ?kd ?ku ?_)
  (((case k1 | k2 | k3 | k4 | k5 => k_asm); (case kK => first | exact rfl | assumption); (case kd => first | exact Mine.room_up (by assumption) (by first | decide | omega) | exact Mine.room_0 (by assumption) (by first | decide | omega) | ktr_room); (case ku => first | exact Mine.room_up (by assumption) (by first | decide | omega) | exact Mine.room_0 (by assumption) (by first | decide | omega) | ktr_units)))
  intro d o c h1 tk1 F1 N1 hlt1 hds hTD hTells hhas hcl
  (try dsimp only)
  (try k_fold)
  have hlt1' := hlt1
  (try k_lt hlt1)
  have hntl : ∀ p ∈ tl, p.1 ≠ L + 1 + 1 := fun p hp => Nat.ne_of_gt (Nat.lt_trans (Nat.lt_trans (Nat.lt_succ_self _) hrul) (htl p hp))
  (repeat' (first | (k_unfold; (try dsimp only)) | ((((fail_if_success (with_reducible first | show wpAny _ _ (exec (Stmt.For _ _ _ _ _) _) _ _ _ | show wpAny _ _ (exec (Stmt.While _ _ _ _) _) _ _ _ | show wpAny _ _ (pyIter _) _ _ _ | show wpAny _ _ (call (Value.ref _) _ _) _ _ _ | show wpAny _ _ (eval (Expr.Subscript _ (Expr.Slice none (some (Expr.BoolOp _ _ _)) none _) _) _) _ _ _ | show wpAny _ _ (exec (Stmt.If _ [Stmt.Assign [Expr.Tuple _ _ _] _ _] _ _) _) _ _ _ | show wpAny _ _ (exec (Stmt.If (Expr.BoolOp _ _ _) [Stmt.Assign [Expr.Name _ _] (Expr.Subscript _ _ _) _] _ _) _) _ _ _)); fail_if_success (with_reducible first | show wpAny _ _ (eval (Expr.ListComp _ _ _ _) _) _ _ _ | show wpAny _ _ (exec (Stmt.Assign _ (Expr.ListComp _ _ _ _) _) _) _ _ _ | show LCg.CompSrc _ _ _ _ _ _ _ _ _ _ _ _ _ _ | show LCg.CompEnd _ _ _ _ _ _ _ _ _ _ _ _ _ _ | show wpAny _ _ (call (Value.builtin "max") _) _ _ _ | show LCp.SrcLP _ _ _ _ _ _ _ _ _ _ _ _ _ _ _))); walk1) | ((((fail_if_success (with_reducible first | show wpAny _ _ (exec (Stmt.For _ _ _ _ _) _) _ _ _ | show wpAny _ _ (exec (Stmt.While _ _ _ _) _) _ _ _ | show wpAny _ _ (pyIter _) _ _ _ | show wpAny _ _ (call (Value.ref _) _ _) _ _ _ | show wpAny _ _ (eval (Expr.Subscript _ (Expr.Slice none (some (Expr.BoolOp _ _ _)) none _) _) _) _ _ _ | show wpAny _ _ (exec (Stmt.If _ [Stmt.Assign [Expr.Tuple _ _ _] _ _] _ _) _) _ _ _ | show wpAny _ _ (exec (Stmt.If (Expr.BoolOp _ _ _) [Stmt.Assign [Expr.Name _ _] (Expr.Subscript _ _ _) _] _ _) _) _ _ _)); fail_if_success (with_reducible first | show wpAny _ _ (eval (Expr.ListComp _ _ _ _) _) _ _ _ | show wpAny _ _ (exec (Stmt.Assign _ (Expr.ListComp _ _ _ _) _) _) _ _ _ | show LCg.CompSrc _ _ _ _ _ _ _ _ _ _ _ _ _ _ | show LCg.CompEnd _ _ _ _ _ _ _ _ _ _ _ _ _ _ | show wpAny _ _ (call (Value.builtin "max") _) _ _ _ | show LCp.SrcLP _ _ _ _ _ _ _ _ _ _ _ _ _ _ _))); dsimp only; walk1) | (leave1; (try dsimp only)) | fail "no step"))
  rename News _ _ _ _ => N2
  have hTD' := hTD
  obtain ⟨kvs, hT1, hT2⟩ := hTD'
  have hc1 : 1 ≤ c.length := by
    have := hhas 0 1 (by decide) (by exact om79 hx3 hx)
    cases c with
    | nil => cases this
    | cons p c => simp
  (try dsimp only)
  refine keq_tabs_len (knd := PySem.strKind Challenge.rw_ph0059_01.row.prog w) (enc := PyData.str) (Da := kdpD c) (Db := []) (TabAt.ofNews N2 (.tail _ (.head _)) hds hT1 hT2) (TabAt.ofNews N2 (.head _) (by assumption) (by assumption) (by assumption)) ?hlen ?hun ?_
  case hlen =>
    rw [kdpD_length]
    cases c with
    | nil => simp at hc1
    | cons p c => rfl
  case hun => show un < cLine; omega

  (repeat' (first | (k_unfold; (try dsimp only)) | ((((fail_if_success (with_reducible first | show wpAny _ _ (exec (Stmt.For _ _ _ _ _) _) _ _ _ | show wpAny _ _ (exec (Stmt.While _ _ _ _) _) _ _ _ | show wpAny _ _ (pyIter _) _ _ _ | show wpAny _ _ (call (Value.ref _) _ _) _ _ _ | show wpAny _ _ (eval (Expr.Subscript _ (Expr.Slice none (some (Expr.BoolOp _ _ _)) none _) _) _) _ _ _ | show wpAny _ _ (exec (Stmt.If _ [Stmt.Assign [Expr.Tuple _ _ _] _ _] _ _) _) _ _ _ | show wpAny _ _ (exec (Stmt.If (Expr.BoolOp _ _ _) [Stmt.Assign [Expr.Name _ _] (Expr.Subscript _ _ _) _] _ _) _) _ _ _)); fail_if_success (with_reducible first | show wpAny _ _ (eval (Expr.ListComp _ _ _ _) _) _ _ _ | show wpAny _ _ (exec (Stmt.Assign _ (Expr.ListComp _ _ _ _) _) _) _ _ _ | show LCg.CompSrc _ _ _ _ _ _ _ _ _ _ _ _ _ _ | show LCg.CompEnd _ _ _ _ _ _ _ _ _ _ _ _ _ _ | show wpAny _ _ (call (Value.builtin "max") _) _ _ _ | show LCp.SrcLP _ _ _ _ _ _ _ _ _ _ _ _ _ _ _))); walk1) | ((((fail_if_success (with_reducible first | show wpAny _ _ (exec (Stmt.For _ _ _ _ _) _) _ _ _ | show wpAny _ _ (exec (Stmt.While _ _ _ _) _) _ _ _ | show wpAny _ _ (pyIter _) _ _ _ | show wpAny _ _ (call (Value.ref _) _ _) _ _ _ | show wpAny _ _ (eval (Expr.Subscript _ (Expr.Slice none (some (Expr.BoolOp _ _ _)) none _) _) _) _ _ _ | show wpAny _ _ (exec (Stmt.If _ [Stmt.Assign [Expr.Tuple _ _ _] _ _] _ _) _) _ _ _ | show wpAny _ _ (exec (Stmt.If (Expr.BoolOp _ _ _) [Stmt.Assign [Expr.Name _ _] (Expr.Subscript _ _ _) _] _ _) _) _ _ _)); fail_if_success (with_reducible first | show wpAny _ _ (eval (Expr.ListComp _ _ _ _) _) _ _ _ | show wpAny _ _ (exec (Stmt.Assign _ (Expr.ListComp _ _ _ _) _) _) _ _ _ | show LCg.CompSrc _ _ _ _ _ _ _ _ _ _ _ _ _ _ | show LCg.CompEnd _ _ _ _ _ _ _ _ _ _ _ _ _ _ | show wpAny _ _ (call (Value.builtin "max") _) _ _ _ | show LCp.SrcLP _ _ _ _ _ _ _ _ _ _ _ _ _ _ _))); dsimp only; walk1) | (leave1; (try dsimp only)) | fail "no step"))
  rename Fr _ _ _ _ => F3
  rename News _ _ _ _ => N3
  refine ret _ _ d o _ c ?_ hds hTD hTells hhas (by assumption) F3 (fun p hp => N3 p (.tail _ hp))
  intro p hp
  rcases List.mem_cons.mp hp with rfl | hp
  · exact hlt1.1
  · rcases List.mem_cons.mp hp with rfl | hp
    · exact hlt1.2.1
    · rcases List.mem_cons.mp hp with rfl | hp
      · exact hlt1.2.2.1
      · exact hlt1' p (.tail _ (.tail _ (.tail _ hp)))
end Mine
end

section
namespace Mine
theorem seg_of {T : List Nat} : ∀ (gs : List (List Nat)) (k : Nat), k ≤ T.length → gs.flatten = T.drop k → (∀ g ∈ gs, g ≠ []) → ∀ g ∈ gs, ∃ a b : Nat, a < b ∧ b ≤ T.length ∧ g = (T.drop a).take (b - a)
  | [], _, _, _, _, g, hg => by cases hg
  | g0 :: gs, k, hk, hf, hn, g, hg => by
    rw [List.flatten_cons] at hf
    have hl : g0.length + gs.flatten.length = T.length - k := by
      rw [← List.length_append, hf, List.length_drop]
    have h0 : 1 ≤ g0.length := List.length_pos_iff.mpr (hn g0 (.head _))
    rcases List.mem_cons.mp hg with rfl | hg
    · refine ⟨k, k + g.length, by omega, by exact om84 hk hl, ?_⟩
      rw [← hf, show k + g.length - k = g.length by omega, List.take_left']
      rfl
    · refine seg_of gs (k + g0.length) (by exact om84 hk hl) ?_ (fun q hq => hn q (.tail _ hq)) g hg
      rw [← List.drop_drop, ← hf, List.drop_left']
      rfl
theorem sumD_map (W : List Nat) : ∀ ss : List Str, (ss.map fun z => D W (ls z)).sum = sumD W (ss.map ls)
  | [] => rfl
  | z :: ss => by
    rw [List.map_cons, List.sum_cons, sumD_map W ss]
    rfl
/-- a group's text is in the table -/
theorem group_has {x : Str} {c : List (Str × Int)} {W : List Nat} (hTells : Tells' W c) (hhas : ∀ i j : Nat, i < j → j ≤ x.length → kdpHas c (Txt.slice x (some (i : Int)) (some (j : Int))) = true) (hx : 1 ≤ x.length) {bits : Nat} {z : Str}
    (hz : ls z ∈ ruler (ls x) bits) : kdpHas c z = true ∧ kdpLook c z 0 = D W (ls z) := by
  obtain ⟨h1, h2⟩ := ruler_flat (T := ls x) (by rw [ls_len]; exact hx) bits
  obtain ⟨s1, _, _⟩ := sizes_ok bits ((ls x).length - 1)
  obtain ⟨a, b, h3, h4, h5⟩ := seg_of (T := ls x) (ruler (ls x) bits) 0 (Nat.zero_le _) (by rw [h1]; rfl) (fun g hg e => by
    have : (g.length : Int) ∈ lens (ruler (ls x) bits) := List.mem_map_of_mem hg
    rw [h2] at this
    have := s1 _ this
    rw [e] at this
    simp at this) (ls z) hz
  rw [ls_len] at h4
  have e : z = Txt.slice x (some (a : Int)) (some (b : Int)) := by
    apply ls_inj
    rw [ls_ss (by exact om30) (by omega) (by exact om85 h4), h5, show ((a : Int)).toNat = a by exact om56, Int.toNat_sub b a]
  have h6 := hhas a b h3 h4
  rw [← e] at h6
  exact ⟨h6, hTells z h6⟩
theorem mem_map_some {α β : Type} {f : α → β} {l : List α} {i : Nat} {v : β} (h : (l.map f)[i]? = some v) : ∃ g, l[i]? = some g ∧ v = f g := by
  rw [List.getElem?_map] at h
  cases e : l[i]? with
  | none => rw [e] at h; cases h
  | some g => rw [e] at h; exact ⟨g, rfl, (Option.some.inj h).symm⟩
end Mine
end

section
namespace Mine
structure LwT where
  a : Addr
  n : Int
  tn : Tok
  c : Int
  tc : Tok
noncomputable def pairObj (t : LwT) : Obj := { cls := .type "tuple", data := .seq #[.int t.n t.tn, .int t.c t.tc] }
noncomputable def ltRefs (ts : List LwT) : List Value := ts.map fun t => Value.ref t.a
noncomputable def ltLed (ts : List LwT) : List (Addr × Obj) := ts.map fun t => (t.a, pairObj t)
/-- the i-th pair is told by f -/
noncomputable def LtOk (f : Nat → Int × Int) (L : Addr) (ts : List LwT) : Prop := (∀ (j : Nat) (t : LwT), ts[j]? = some t → t.n = (f j).1 ∧ t.c = (f j).2) ∧ ∀ t ∈ ts, @LT.lt Nat _ (L + 1 + 1 + 1) t.a
theorem LtOk.snoc {f : Nat → Int × Int} {L : Addr} {ts : List LwT} (h : LtOk f L ts) {t : LwT} (h1 : t.n = (f ts.length).1) (h2 : t.c = (f ts.length).2) (h3 : @LT.lt Nat _ (L + 1 + 1 + 1) t.a) : LtOk f L (ts ++ [t]) := by
  refine ⟨fun j q hq => ?_, fun q hq => ?_⟩
  · rcases Nat.lt_or_ge j ts.length with hj | hj
    · rw [List.getElem?_append_left hj] at hq
      exact h.1 j q hq
    · rw [List.getElem?_append_right hj] at hq
      obtain ⟨k, hk⟩ : ∃ k, j - ts.length = k := ⟨_, rfl⟩
      rw [hk] at hq
      cases k with
      | zero =>
        have : t = q := Option.some.inj hq
        subst this
        have e : j = ts.length := by exact om76 hj hk
        rw [e]
        exact ⟨h1, h2⟩
      | succ k => simp at hq
  · rcases List.mem_append.mp hq with hq | hq
    · exact h.2 q hq
    · rw [List.mem_singleton.mp hq]; exact h3
theorem off1_mem {D : Addr} : ∀ {l : List (Addr × Obj)}, LCg.Off1 D l → ∀ p ∈ l, p.1 ≠ D
  | [], _, _, h => nomatch h
  | q :: l, h, p, hp => by
    rcases List.mem_cons.mp hp with rfl | hp
    · exact h.1
    · exact off1_mem h.2 p hp
theorem phase3b (w : World) (mean : ExcName → Option Value) (mg mb : Str → Option Value) (dp un : Nat) (gd : Option (List Code)) (cd : Value) (L fa : Addr) (o1 o oc ot : Obj) (A₀ : Around) (base h₀ : Heap) (s : Shared) (Q : Flow → Shared → Prop)
    (tot : Int) (tt : Tok) (x : Str) (tx : Tok) (y : Str) (ty : Tok) (d rul : Addr) (gs : List LwG) (e : Nat) (u : Str → Option Value) (c : List (Str × Int))
    (hB : Below A₀ base [] h₀) (hF : Fr h₀ L s.heap (fun z => if z = Str.ofString "rulers" then some (Value.ref rul) else if z = Str.ofString "word" then some (Value.str y ty) else if z = Str.ofString "total" then some (Value.int tot tt) else u z))
    (hX : (hd.heap_39 w.params).In h₀) (hN : News h₀ L s.heap ((d, o) :: (rul, PySem.W.listOf (lwRefs gs).toArray e) :: (L + 1 + 1 + 1, o1) :: (L + 1 + 1, oc) :: (L + 1, ot) :: lwLed gs)) (hT : Top hd.view_39 (looseW hd.view_39 []) mean mg mb h₀)
    (hgs : LwOk (ls x) gs) (hgl : gs.length ≤ 16) (hx3 : 3 ≤ x.length) (hx : x.length ≤ 5) (hds : (d == sysModules) = false) (hTD : TDict w o c) (hTells : Tells' (ls y) c) (hhas : ∀ i j : Nat, i < j → j ≤ x.length → kdpHas c (Txt.slice x (some (i : Int)) (some (j : Int))) = true)
    (hoc : oc.data = .cell (some (.ref d))) (hdp : dp + 20 < recursionLimit) (hun : un + 200 < cLine)
    (hd3 : L + 1 + 1 + 1 < d)
    (ret : ∀ (h' : Heap) (tk' : Nat) (cs : Addr) (ts : List LwT), ts.length = gs.length → LtOk (fun j => (((ruler (ls x) j).length : Int), sumD (ls y) (ruler (ls x) j))) L ts → (∀ p ∈ (d, o) :: (L + 1 + 1 + 1, o1) :: (L + 1 + 1, oc) :: (L + 1, ot) :: ltLed ts, p.1 ≠ cs) →
      Fr h₀ L h' (fun z => if z = Str.ofString "costs" then some (Value.ref cs) else if z = Str.ofString "rulers" then some (Value.ref rul) else if z = Str.ofString "word" then some (Value.str y ty) else if z = Str.ofString "total" then some (Value.int tot tt) else u z) →
      News h₀ L h' ((cs, LCg.lst (ltRefs ts)) :: (d, o) :: (L + 1 + 1 + 1, o1) :: (L + 1 + 1, oc) :: (L + 1, ot) :: ltLed ts) → Q .next { s with heap := h', toks := tk' }) :
    wpAny (model Challenge.rw_ph0059_01.row.prog w) (lawTop w dp un gd L fa cd) (execs (((lawDef w).body.drop 8).take 1) (lawEnv w L fa cd)) Q (fun _ _ => False) s := by
  k_fill
  (try dsimp only [lawDef, List.take, List.drop, lawTop, lawEnv, lawCl])
  w_on
  obtain ⟨tl, htl⟩ : ∃ tl, tl = lwLed gs := ⟨_, rfl⟩
  rw [← htl] at hN
  (repeat' (first | (k_unfold; (try dsimp only)) | ((((fail_if_success (with_reducible first | show wpAny _ _ (exec (Stmt.For _ _ _ _ _) _) _ _ _ | show wpAny _ _ (exec (Stmt.While _ _ _ _) _) _ _ _ | show wpAny _ _ (pyIter _) _ _ _ | show wpAny _ _ (call (Value.ref _) _ _) _ _ _ | show wpAny _ _ (eval (Expr.Subscript _ (Expr.Slice none (some (Expr.BoolOp _ _ _)) none _) _) _) _ _ _ | show wpAny _ _ (exec (Stmt.If _ [Stmt.Assign [Expr.Tuple _ _ _] _ _] _ _) _) _ _ _ | show wpAny _ _ (exec (Stmt.If (Expr.BoolOp _ _ _) [Stmt.Assign [Expr.Name _ _] (Expr.Subscript _ _ _) _] _ _) _) _ _ _)); fail_if_success (with_reducible first | show wpAny _ _ (eval (Expr.ListComp _ _ _ _) _) _ _ _ | show wpAny _ _ (exec (Stmt.Assign _ (Expr.ListComp _ _ _ _) _) _) _ _ _ | show LCg.CompSrc _ _ _ _ _ _ _ _ _ _ _ _ _ _ | show LCg.CompEnd _ _ _ _ _ _ _ _ _ _ _ _ _ _ | show wpAny _ _ (call (Value.builtin "max") _) _ _ _ | show LCp.SrcLP _ _ _ _ _ _ _ _ _ _ _ _ _ _ _))); walk1) | ((((fail_if_success (with_reducible first | show wpAny _ _ (exec (Stmt.For _ _ _ _ _) _) _ _ _ | show wpAny _ _ (exec (Stmt.While _ _ _ _) _) _ _ _ | show wpAny _ _ (pyIter _) _ _ _ | show wpAny _ _ (call (Value.ref _) _ _) _ _ _ | show wpAny _ _ (eval (Expr.Subscript _ (Expr.Slice none (some (Expr.BoolOp _ _ _)) none _) _) _) _ _ _ | show wpAny _ _ (exec (Stmt.If _ [Stmt.Assign [Expr.Tuple _ _ _] _ _] _ _) _) _ _ _ | show wpAny _ _ (exec (Stmt.If (Expr.BoolOp _ _ _) [Stmt.Assign [Expr.Name _ _] (Expr.Subscript _ _ _) _] _ _) _) _ _ _)); fail_if_success (with_reducible first | show wpAny _ _ (eval (Expr.ListComp _ _ _ _) _) _ _ _ | show wpAny _ _ (exec (Stmt.Assign _ (Expr.ListComp _ _ _ _) _) _) _ _ _ | show LCg.CompSrc _ _ _ _ _ _ _ _ _ _ _ _ _ _ | show LCg.CompEnd _ _ _ _ _ _ _ _ _ _ _ _ _ _ | show wpAny _ _ (call (Value.builtin "max") _) _ _ _ | show LCp.SrcLP _ _ _ _ _ _ _ _ _ _ _ _ _ _ _))); dsimp only; walk1) | (leave1; (try dsimp only)) | fail "no step"))
  k_dflt (refine LCg.Assign_ListComp_U (F₀ := by k_asm) (by rfl) (by with_unfolding_all rfl) (by with_unfolding_all rfl) (by decide) (by rfl) (by decide) (by rfl) (by rfl) (by rfl) ?_)
  (repeat' (first | (k_unfold; (try dsimp only)) | ((((fail_if_success (with_reducible first | show wpAny _ _ (exec (Stmt.For _ _ _ _ _) _) _ _ _ | show wpAny _ _ (exec (Stmt.While _ _ _ _) _) _ _ _ | show wpAny _ _ (pyIter _) _ _ _ | show wpAny _ _ (call (Value.ref _) _ _) _ _ _ | show wpAny _ _ (eval (Expr.Subscript _ (Expr.Slice none (some (Expr.BoolOp _ _ _)) none _) _) _) _ _ _ | show wpAny _ _ (exec (Stmt.If _ [Stmt.Assign [Expr.Tuple _ _ _] _ _] _ _) _) _ _ _ | show wpAny _ _ (exec (Stmt.If (Expr.BoolOp _ _ _) [Stmt.Assign [Expr.Name _ _] (Expr.Subscript _ _ _) _] _ _) _) _ _ _)); fail_if_success (with_reducible first | show wpAny _ _ (eval (Expr.ListComp _ _ _ _) _) _ _ _ | show wpAny _ _ (exec (Stmt.Assign _ (Expr.ListComp _ _ _ _) _) _) _ _ _ | show LCg.CompSrc _ _ _ _ _ _ _ _ _ _ _ _ _ _ | show LCg.CompEnd _ _ _ _ _ _ _ _ _ _ _ _ _ _ | show wpAny _ _ (call (Value.builtin "max") _) _ _ _ | show LCp.SrcLP _ _ _ _ _ _ _ _ _ _ _ _ _ _ _))); walk1) | ((((fail_if_success (with_reducible first | show wpAny _ _ (exec (Stmt.For _ _ _ _ _) _) _ _ _ | show wpAny _ _ (exec (Stmt.While _ _ _ _) _) _ _ _ | show wpAny _ _ (pyIter _) _ _ _ | show wpAny _ _ (call (Value.ref _) _ _) _ _ _ | show wpAny _ _ (eval (Expr.Subscript _ (Expr.Slice none (some (Expr.BoolOp _ _ _)) none _) _) _) _ _ _ | show wpAny _ _ (exec (Stmt.If _ [Stmt.Assign [Expr.Tuple _ _ _] _ _] _ _) _) _ _ _ | show wpAny _ _ (exec (Stmt.If (Expr.BoolOp _ _ _) [Stmt.Assign [Expr.Name _ _] (Expr.Subscript _ _ _) _] _ _) _) _ _ _)); fail_if_success (with_reducible first | show wpAny _ _ (eval (Expr.ListComp _ _ _ _) _) _ _ _ | show wpAny _ _ (exec (Stmt.Assign _ (Expr.ListComp _ _ _ _) _) _) _ _ _ | show LCg.CompSrc _ _ _ _ _ _ _ _ _ _ _ _ _ _ | show LCg.CompEnd _ _ _ _ _ _ _ _ _ _ _ _ _ _ | show wpAny _ _ (call (Value.builtin "max") _) _ _ _ | show LCp.SrcLP _ _ _ _ _ _ _ _ _ _ _ _ _ _ _))); dsimp only; walk1) | (leave1; (try dsimp only)) | fail "no step"))
  rename Fr _ _ _ _ => F8
  rename News _ _ _ _ => N8
  have hrv : (lwRefs gs).length = gs.length := List.length_map _
  refine LCg.CompSrc.ledger (by rfl) F8 N8 (.tail _ (.head _)) (by rw [sizeLine_eq, List.size_toArray]; omega) ?_
  intro g9
  refine comp_inv (fun j ws nw => ∃ ts : List LwT, ts.length = j ∧ ws = ltRefs ts ∧ LtOk (fun j => (((ruler (ls x) j).length : Int), sumD (ls y) (ruler (ls x) j))) L ts ∧ nw = (d, o) :: (rul, PySem.W.listOf (lwRefs gs).toArray e) :: (L + 1 + 1 + 1, o1) :: (L + 1 + 1, oc) :: (L + 1, ot) :: (tl ++ ltLed ts)) ⟨[], rfl, rfl, ⟨(fun _ _ h => nomatch h), (fun _ h => nomatch h)⟩, by rw [show ltLed [] = [] from rfl, List.append_nil]⟩ ?cfin ?cstep
  case cfin =>
    intro ws nw hInv
    obtain ⟨ts, hts1, rfl, hts2, rfl⟩ := hInv
    unfold LCg.FinA
    intro D5 h5 tk5 F12 N12 off5
    clear F8 N8
    have off6 : ∀ p ∈ (d, o) :: (rul, PySem.W.listOf (lwRefs gs).toArray e) :: (L + 1 + 1 + 1, o1) :: (L + 1 + 1, oc) :: (L + 1, ot) :: (tl ++ ltLed ts), p.1 ≠ D5 := off1_mem off5
    clear off5
    (try dsimp only at F12 N12 ⊢)
    have hsub : ∀ p ∈ (d, o) :: (L + 1 + 1 + 1, o1) :: (L + 1 + 1, oc) :: (L + 1, ot) :: ltLed ts, p ∈ (d, o) :: (rul, PySem.W.listOf (lwRefs gs).toArray e) :: (L + 1 + 1 + 1, o1) :: (L + 1 + 1, oc) :: (L + 1, ot) :: (tl ++ ltLed ts) := by
      intro p hp
      rcases List.mem_cons.mp hp with rfl | hp
      · exact .head _
      · refine .tail _ (.tail _ ?_)
        rcases List.mem_cons.mp hp with rfl | hp
        · exact .head _
        · rcases List.mem_cons.mp hp with rfl | hp
          · exact .tail _ (.head _)
          · rcases List.mem_cons.mp hp with rfl | hp
            · exact .tail _ (.tail _ (.head _))
            · exact .tail _ (.tail _ (.tail _ (List.mem_append_right _ hp)))
    (repeat' (first | (k_unfold; (try dsimp only)) | ((((fail_if_success (with_reducible first | show wpAny _ _ (exec (Stmt.For _ _ _ _ _) _) _ _ _ | show wpAny _ _ (exec (Stmt.While _ _ _ _) _) _ _ _ | show wpAny _ _ (pyIter _) _ _ _ | show wpAny _ _ (call (Value.ref _) _ _) _ _ _ | show wpAny _ _ (eval (Expr.Subscript _ (Expr.Slice none (some (Expr.BoolOp _ _ _)) none _) _) _) _ _ _ | show wpAny _ _ (exec (Stmt.If _ [Stmt.Assign [Expr.Tuple _ _ _] _ _] _ _) _) _ _ _ | show wpAny _ _ (exec (Stmt.If (Expr.BoolOp _ _ _) [Stmt.Assign [Expr.Name _ _] (Expr.Subscript _ _ _) _] _ _) _) _ _ _)); fail_if_success (with_reducible first | show wpAny _ _ (eval (Expr.ListComp _ _ _ _) _) _ _ _ | show wpAny _ _ (exec (Stmt.Assign _ (Expr.ListComp _ _ _ _) _) _) _ _ _ | show LCg.CompSrc _ _ _ _ _ _ _ _ _ _ _ _ _ _ | show LCg.CompEnd _ _ _ _ _ _ _ _ _ _ _ _ _ _ | show wpAny _ _ (call (Value.builtin "max") _) _ _ _ | show LCp.SrcLP _ _ _ _ _ _ _ _ _ _ _ _ _ _ _))); walk1) | ((((fail_if_success (with_reducible first | show wpAny _ _ (exec (Stmt.For _ _ _ _ _) _) _ _ _ | show wpAny _ _ (exec (Stmt.While _ _ _ _) _) _ _ _ | show wpAny _ _ (pyIter _) _ _ _ | show wpAny _ _ (call (Value.ref _) _ _) _ _ _ | show wpAny _ _ (eval (Expr.Subscript _ (Expr.Slice none (some (Expr.BoolOp _ _ _)) none _) _) _) _ _ _ | show wpAny _ _ (exec (Stmt.If _ [Stmt.Assign [Expr.Tuple _ _ _] _ _] _ _) _) _ _ _ | show wpAny _ _ (exec (Stmt.If (Expr.BoolOp _ _ _) [Stmt.Assign [Expr.Name _ _] (Expr.Subscript _ _ _) _] _ _) _) _ _ _)); fail_if_success (with_reducible first | show wpAny _ _ (eval (Expr.ListComp _ _ _ _) _) _ _ _ | show wpAny _ _ (exec (Stmt.Assign _ (Expr.ListComp _ _ _ _) _) _) _ _ _ | show LCg.CompSrc _ _ _ _ _ _ _ _ _ _ _ _ _ _ | show LCg.CompEnd _ _ _ _ _ _ _ _ _ _ _ _ _ _ | show wpAny _ _ (call (Value.builtin "max") _) _ _ _ | show LCp.SrcLP _ _ _ _ _ _ _ _ _ _ _ _ _ _ _))); dsimp only; walk1) | (leave1; (try dsimp only)) | fail "no step"))
    refine ret _ _ D5 ts (by rw [hts1, List.size_toArray, hrv]) hts2 (fun p hp => off6 p (hsub p hp)) (by assumption) (fun p hp => ?_)
    rcases List.mem_cons.mp hp with rfl | hp
    · exact N12 _ (.head _)
    · exact N12 p (.tail _ (hsub p hp))
  case cstep =>
    intro j ws nw v I4 oI4 C4 oC4 D4 m4 h4 tk4 E4 hj hInv hP4 hC4 hx4 F9 N9 off4 hne4
    obtain ⟨ts, hts1, rfl, hts2, rfl⟩ := hInv
    have off4m := off4.mem
    have hP5 : (lwRefs gs)[j]? = some v := by simpa using hP4
    obtain ⟨g, hg, rfl⟩ := mem_map_some hP5
    obtain ⟨hg1, hg2⟩ := hgs j g hg
    simp only [LCg.Off3] at off4
    clear F8 N8
    obtain ⟨hrf1, hrf2⟩ := ruler_flat (T := ls x) (by rw [ls_len]; exact om79 hx3 hx) j
    have hgv : g.vs.length = (ruler (ls x) j).length := by rw [hg1.length, ← hg2, List.length_map]
    have hv5 : g.vs.length ≤ 5 := by
      have h1 := sizesOf_len j ((ls x).length - 1)
      rw [← hrf2, ls_len] at h1
      unfold lens at h1
      rw [List.length_map] at h1
      omega
    have hgm : (g.a, PySem.W.listOf g.vs.toArray g.e) ∈ tl := by rw [htl]; exact List.mem_map_of_mem (List.mem_of_getElem? hg)
    have N10 : News h₀ L h4 ((g.a, PySem.W.listOf g.vs.toArray g.e) :: (I4, oI4) :: (C4, oC4) :: (D4, LCg.lst (ltRefs ts)) :: (d, o) :: (rul, PySem.W.listOf (lwRefs gs).toArray e) :: (L + 1 + 1 + 1, o1) :: (L + 1 + 1, oc) :: (L + 1, ot) :: (tl ++ ltLed ts)) := fun p hp => by
      rcases List.mem_cons.mp hp with rfl | hp
      · exact N9 _ (.tail _ (.tail _ (.tail _ (.tail _ (.tail _ (.tail _ (.tail _ (.tail _ (List.mem_append_left _ hgm)))))))))
      · exact N9 p hp
    clear N9
    (try dsimp only at F9 N10 ⊢)
    (repeat' (first | (k_unfold; (try dsimp only)) | ((((fail_if_success (with_reducible first | show wpAny _ _ (exec (Stmt.For _ _ _ _ _) _) _ _ _ | show wpAny _ _ (exec (Stmt.While _ _ _ _) _) _ _ _ | show wpAny _ _ (pyIter _) _ _ _ | show wpAny _ _ (call (Value.ref _) _ _) _ _ _ | show wpAny _ _ (eval (Expr.Subscript _ (Expr.Slice none (some (Expr.BoolOp _ _ _)) none _) _) _) _ _ _ | show wpAny _ _ (exec (Stmt.If _ [Stmt.Assign [Expr.Tuple _ _ _] _ _] _ _) _) _ _ _ | show wpAny _ _ (exec (Stmt.If (Expr.BoolOp _ _ _) [Stmt.Assign [Expr.Name _ _] (Expr.Subscript _ _ _) _] _ _) _) _ _ _)); fail_if_success (with_reducible first | show wpAny _ _ (eval (Expr.ListComp _ _ _ _) _) _ _ _ | show wpAny _ _ (exec (Stmt.Assign _ (Expr.ListComp _ _ _ _) _) _) _ _ _ | show LCg.CompSrc _ _ _ _ _ _ _ _ _ _ _ _ _ _ | show LCg.CompEnd _ _ _ _ _ _ _ _ _ _ _ _ _ _ | show wpAny _ _ (call (Value.builtin "max") _) _ _ _ | show LCp.SrcLP _ _ _ _ _ _ _ _ _ _ _ _ _ _ _))); walk1) | ((((fail_if_success (with_reducible first | show wpAny _ _ (exec (Stmt.For _ _ _ _ _) _) _ _ _ | show wpAny _ _ (exec (Stmt.While _ _ _ _) _) _ _ _ | show wpAny _ _ (pyIter _) _ _ _ | show wpAny _ _ (call (Value.ref _) _ _) _ _ _ | show wpAny _ _ (eval (Expr.Subscript _ (Expr.Slice none (some (Expr.BoolOp _ _ _)) none _) _) _) _ _ _ | show wpAny _ _ (exec (Stmt.If _ [Stmt.Assign [Expr.Tuple _ _ _] _ _] _ _) _) _ _ _ | show wpAny _ _ (exec (Stmt.If (Expr.BoolOp _ _ _) [Stmt.Assign [Expr.Name _ _] (Expr.Subscript _ _ _) _] _ _) _) _ _ _)); fail_if_success (with_reducible first | show wpAny _ _ (eval (Expr.ListComp _ _ _ _) _) _ _ _ | show wpAny _ _ (exec (Stmt.Assign _ (Expr.ListComp _ _ _ _) _) _) _ _ _ | show LCg.CompSrc _ _ _ _ _ _ _ _ _ _ _ _ _ _ | show LCg.CompEnd _ _ _ _ _ _ _ _ _ _ _ _ _ _ | show wpAny _ _ (call (Value.builtin "max") _) _ _ _ | show LCp.SrcLP _ _ _ _ _ _ _ _ _ _ _ _ _ _ _))); dsimp only; walk1) | (leave1; (try dsimp only)) | fail "no step"))
    refine len_list (items := g.vs.toArray) ?lnl ?lnf ?_
    case lnl => exact News.isList N10 (.head _)
    case lnf => rw [List.size_toArray]; omega
    rw [List.size_toArray]
    (repeat' (first | (k_unfold; (try dsimp only)) | ((((fail_if_success (with_reducible first | show wpAny _ _ (exec (Stmt.For _ _ _ _ _) _) _ _ _ | show wpAny _ _ (exec (Stmt.While _ _ _ _) _) _ _ _ | show wpAny _ _ (pyIter _) _ _ _ | show wpAny _ _ (call (Value.ref _) _ _) _ _ _ | show wpAny _ _ (eval (Expr.Subscript _ (Expr.Slice none (some (Expr.BoolOp _ _ _)) none _) _) _) _ _ _ | show wpAny _ _ (exec (Stmt.If _ [Stmt.Assign [Expr.Tuple _ _ _] _ _] _ _) _) _ _ _ | show wpAny _ _ (exec (Stmt.If (Expr.BoolOp _ _ _) [Stmt.Assign [Expr.Name _ _] (Expr.Subscript _ _ _) _] _ _) _) _ _ _)); fail_if_success (with_reducible first | show wpAny _ _ (eval (Expr.ListComp _ _ _ _) _) _ _ _ | show wpAny _ _ (exec (Stmt.Assign _ (Expr.ListComp _ _ _ _) _) _) _ _ _ | show LCg.CompSrc _ _ _ _ _ _ _ _ _ _ _ _ _ _ | show LCg.CompEnd _ _ _ _ _ _ _ _ _ _ _ _ _ _ | show wpAny _ _ (call (Value.builtin "max") _) _ _ _ | show LCp.SrcLP _ _ _ _ _ _ _ _ _ _ _ _ _ _ _))); walk1) | ((((fail_if_success (with_reducible first | show wpAny _ _ (exec (Stmt.For _ _ _ _ _) _) _ _ _ | show wpAny _ _ (exec (Stmt.While _ _ _ _) _) _ _ _ | show wpAny _ _ (pyIter _) _ _ _ | show wpAny _ _ (call (Value.ref _) _ _) _ _ _ | show wpAny _ _ (eval (Expr.Subscript _ (Expr.Slice none (some (Expr.BoolOp _ _ _)) none _) _) _) _ _ _ | show wpAny _ _ (exec (Stmt.If _ [Stmt.Assign [Expr.Tuple _ _ _] _ _] _ _) _) _ _ _ | show wpAny _ _ (exec (Stmt.If (Expr.BoolOp _ _ _) [Stmt.Assign [Expr.Name _ _] (Expr.Subscript _ _ _) _] _ _) _) _ _ _)); fail_if_success (with_reducible first | show wpAny _ _ (eval (Expr.ListComp _ _ _ _) _) _ _ _ | show wpAny _ _ (exec (Stmt.Assign _ (Expr.ListComp _ _ _ _) _) _) _ _ _ | show LCg.CompSrc _ _ _ _ _ _ _ _ _ _ _ _ _ _ | show LCg.CompEnd _ _ _ _ _ _ _ _ _ _ _ _ _ _ | show wpAny _ _ (call (Value.builtin "max") _) _ _ _ | show LCp.SrcLP _ _ _ _ _ _ _ _ _ _ _ _ _ _ _))); dsimp only; walk1) | (leave1; (try dsimp only)) | fail "no step"))
    k_dflt (refine LCg.ListComp_U (F₀ := by k_asm) (by with_unfolding_all rfl) (by decide) (by rfl) (by decide) (by rfl) ?_)
    (repeat' (first | (k_unfold; (try dsimp only)) | ((((fail_if_success (with_reducible first | show wpAny _ _ (exec (Stmt.For _ _ _ _ _) _) _ _ _ | show wpAny _ _ (exec (Stmt.While _ _ _ _) _) _ _ _ | show wpAny _ _ (pyIter _) _ _ _ | show wpAny _ _ (call (Value.ref _) _ _) _ _ _ | show wpAny _ _ (eval (Expr.Subscript _ (Expr.Slice none (some (Expr.BoolOp _ _ _)) none _) _) _) _ _ _ | show wpAny _ _ (exec (Stmt.If _ [Stmt.Assign [Expr.Tuple _ _ _] _ _] _ _) _) _ _ _ | show wpAny _ _ (exec (Stmt.If (Expr.BoolOp _ _ _) [Stmt.Assign [Expr.Name _ _] (Expr.Subscript _ _ _) _] _ _) _) _ _ _)); fail_if_success (with_reducible first | show wpAny _ _ (eval (Expr.ListComp _ _ _ _) _) _ _ _ | show wpAny _ _ (exec (Stmt.Assign _ (Expr.ListComp _ _ _ _) _) _) _ _ _ | show LCg.CompSrc _ _ _ _ _ _ _ _ _ _ _ _ _ _ | show LCg.CompEnd _ _ _ _ _ _ _ _ _ _ _ _ _ _ | show wpAny _ _ (call (Value.builtin "max") _) _ _ _ | show LCp.SrcLP _ _ _ _ _ _ _ _ _ _ _ _ _ _ _))); walk1) | ((((fail_if_success (with_reducible first | show wpAny _ _ (exec (Stmt.For _ _ _ _ _) _) _ _ _ | show wpAny _ _ (exec (Stmt.While _ _ _ _) _) _ _ _ | show wpAny _ _ (pyIter _) _ _ _ | show wpAny _ _ (call (Value.ref _) _ _) _ _ _ | show wpAny _ _ (eval (Expr.Subscript _ (Expr.Slice none (some (Expr.BoolOp _ _ _)) none _) _) _) _ _ _ | show wpAny _ _ (exec (Stmt.If _ [Stmt.Assign [Expr.Tuple _ _ _] _ _] _ _) _) _ _ _ | show wpAny _ _ (exec (Stmt.If (Expr.BoolOp _ _ _) [Stmt.Assign [Expr.Name _ _] (Expr.Subscript _ _ _) _] _ _) _) _ _ _)); fail_if_success (with_reducible first | show wpAny _ _ (eval (Expr.ListComp _ _ _ _) _) _ _ _ | show wpAny _ _ (exec (Stmt.Assign _ (Expr.ListComp _ _ _ _) _) _) _ _ _ | show LCg.CompSrc _ _ _ _ _ _ _ _ _ _ _ _ _ _ | show LCg.CompEnd _ _ _ _ _ _ _ _ _ _ _ _ _ _ | show wpAny _ _ (call (Value.builtin "max") _) _ _ _ | show LCp.SrcLP _ _ _ _ _ _ _ _ _ _ _ _ _ _ _))); dsimp only; walk1) | (leave1; (try dsimp only)) | fail "no step"))
    rename Fr _ _ _ _ => F11
    rename News _ _ _ _ => N11
    refine LCg.CompSrc.ledger (by rfl) F11 N11 (.head _) (by rw [sizeLine_eq, List.size_toArray]; omega) ?_
    intro g10
    refine comp_inv (fun q zs nw => nw = (g.a, PySem.W.listOf g.vs.toArray g.e) :: (I4, oI4) :: (C4, oC4) :: (D4, LCg.lst (ltRefs ts)) :: (d, o) :: (rul, PySem.W.listOf (lwRefs gs).toArray e) :: (L + 1 + 1 + 1, o1) :: (L + 1 + 1, oc) :: (L + 1, ot) :: (tl ++ ltLed ts) ∧ IntsAre zs ((g.ss.take q).map fun z => D (ls y) (ls z))) ⟨rfl, .nil⟩ ?dfin ?dstep
    case dstep =>
      intro q zs nw v I5 oI5 C5 oC5 D5 m5 h5 tk5 E5 hq hInv hP6 hC5 hx5 F12 N12 off5 hne5
      obtain ⟨rfl, hzs⟩ := hInv
      obtain ⟨z, tz, hz, rfl⟩ := strs_at hg1 q v (by simpa using hP6)
      obtain ⟨hk1, hk2⟩ := group_has hTells hhas (by exact om79 hx3 hx) (bits := j) (z := z) (by rw [← hg2]; exact List.mem_map_of_mem (List.mem_of_getElem? hz))
      clear F11 N11
      (try dsimp only at F12 N12 ⊢)
      (repeat' (first | (k_unfold; (try dsimp only)) | ((((fail_if_success (with_reducible first | show wpAny _ _ (exec (Stmt.For _ _ _ _ _) _) _ _ _ | show wpAny _ _ (exec (Stmt.While _ _ _ _) _) _ _ _ | show wpAny _ _ (pyIter _) _ _ _ | show wpAny _ _ (call (Value.ref _) _ _) _ _ _ | show wpAny _ _ (eval (Expr.Subscript _ (Expr.Slice none (some (Expr.BoolOp _ _ _)) none _) _) _) _ _ _ | show wpAny _ _ (exec (Stmt.If _ [Stmt.Assign [Expr.Tuple _ _ _] _ _] _ _) _) _ _ _ | show wpAny _ _ (exec (Stmt.If (Expr.BoolOp _ _ _) [Stmt.Assign [Expr.Name _ _] (Expr.Subscript _ _ _) _] _ _) _) _ _ _)); fail_if_success (with_reducible first | show wpAny _ _ (eval (Expr.ListComp _ _ _ _) _) _ _ _ | show wpAny _ _ (exec (Stmt.Assign _ (Expr.ListComp _ _ _ _) _) _) _ _ _ | show LCg.CompSrc _ _ _ _ _ _ _ _ _ _ _ _ _ _ | show LCg.CompEnd _ _ _ _ _ _ _ _ _ _ _ _ _ _ | show wpAny _ _ (call (Value.builtin "max") _) _ _ _ | show LCp.SrcLP _ _ _ _ _ _ _ _ _ _ _ _ _ _ _))); walk1) | ((((fail_if_success (with_reducible first | show wpAny _ _ (exec (Stmt.For _ _ _ _ _) _) _ _ _ | show wpAny _ _ (exec (Stmt.While _ _ _ _) _) _ _ _ | show wpAny _ _ (pyIter _) _ _ _ | show wpAny _ _ (call (Value.ref _) _ _) _ _ _ | show wpAny _ _ (eval (Expr.Subscript _ (Expr.Slice none (some (Expr.BoolOp _ _ _)) none _) _) _) _ _ _ | show wpAny _ _ (exec (Stmt.If _ [Stmt.Assign [Expr.Tuple _ _ _] _ _] _ _) _) _ _ _ | show wpAny _ _ (exec (Stmt.If (Expr.BoolOp _ _ _) [Stmt.Assign [Expr.Name _ _] (Expr.Subscript _ _ _) _] _ _) _) _ _ _)); fail_if_success (with_reducible first | show wpAny _ _ (eval (Expr.ListComp _ _ _ _) _) _ _ _ | show wpAny _ _ (exec (Stmt.Assign _ (Expr.ListComp _ _ _ _) _) _) _ _ _ | show LCg.CompSrc _ _ _ _ _ _ _ _ _ _ _ _ _ _ | show LCg.CompEnd _ _ _ _ _ _ _ _ _ _ _ _ _ _ | show wpAny _ _ (call (Value.builtin "max") _) _ _ _ | show LCp.SrcLP _ _ _ _ _ _ _ _ _ _ _ _ _ _ _))); dsimp only; walk1) | (leave1; (try dsimp only)) | fail "no step"))
      obtain ⟨kvsT, hT1, hT2⟩ := hTD
      refine kdp_item (TabAt.ofNews N12 (.tail _ (.tail _ (.tail _ (.tail _ (.tail _ (.tail _ (.tail _ (.head _)))))))) hds hT1 hT2) hk1 ?_
      intro t8
      rw [hk2]
      (repeat' (first | (k_unfold; (try dsimp only)) | ((((fail_if_success (with_reducible first | show wpAny _ _ (exec (Stmt.For _ _ _ _ _) _) _ _ _ | show wpAny _ _ (exec (Stmt.While _ _ _ _) _) _ _ _ | show wpAny _ _ (pyIter _) _ _ _ | show wpAny _ _ (call (Value.ref _) _ _) _ _ _ | show wpAny _ _ (eval (Expr.Subscript _ (Expr.Slice none (some (Expr.BoolOp _ _ _)) none _) _) _) _ _ _ | show wpAny _ _ (exec (Stmt.If _ [Stmt.Assign [Expr.Tuple _ _ _] _ _] _ _) _) _ _ _ | show wpAny _ _ (exec (Stmt.If (Expr.BoolOp _ _ _) [Stmt.Assign [Expr.Name _ _] (Expr.Subscript _ _ _) _] _ _) _) _ _ _)); fail_if_success (with_reducible first | show wpAny _ _ (eval (Expr.ListComp _ _ _ _) _) _ _ _ | show wpAny _ _ (exec (Stmt.Assign _ (Expr.ListComp _ _ _ _) _) _) _ _ _ | show LCg.CompSrc _ _ _ _ _ _ _ _ _ _ _ _ _ _ | show LCg.CompEnd _ _ _ _ _ _ _ _ _ _ _ _ _ _ | show wpAny _ _ (call (Value.builtin "max") _) _ _ _ | show LCp.SrcLP _ _ _ _ _ _ _ _ _ _ _ _ _ _ _))); walk1) | ((((fail_if_success (with_reducible first | show wpAny _ _ (exec (Stmt.For _ _ _ _ _) _) _ _ _ | show wpAny _ _ (exec (Stmt.While _ _ _ _) _) _ _ _ | show wpAny _ _ (pyIter _) _ _ _ | show wpAny _ _ (call (Value.ref _) _ _) _ _ _ | show wpAny _ _ (eval (Expr.Subscript _ (Expr.Slice none (some (Expr.BoolOp _ _ _)) none _) _) _) _ _ _ | show wpAny _ _ (exec (Stmt.If _ [Stmt.Assign [Expr.Tuple _ _ _] _ _] _ _) _) _ _ _ | show wpAny _ _ (exec (Stmt.If (Expr.BoolOp _ _ _) [Stmt.Assign [Expr.Name _ _] (Expr.Subscript _ _ _) _] _ _) _) _ _ _)); fail_if_success (with_reducible first | show wpAny _ _ (eval (Expr.ListComp _ _ _ _) _) _ _ _ | show wpAny _ _ (exec (Stmt.Assign _ (Expr.ListComp _ _ _ _) _) _) _ _ _ | show LCg.CompSrc _ _ _ _ _ _ _ _ _ _ _ _ _ _ | show LCg.CompEnd _ _ _ _ _ _ _ _ _ _ _ _ _ _ | show wpAny _ _ (call (Value.builtin "max") _) _ _ _ | show LCp.SrcLP _ _ _ _ _ _ _ _ _ _ _ _ _ _ _))); dsimp only; walk1) | (leave1; (try dsimp only)) | fail "no step"))
      rename Fr _ _ _ _ => F13
      rename News _ _ _ _ => N13
      refine ⟨_, _, _, rfl, F13, N13, off5, .inr ⟨_, .head _, rfl, _, rfl⟩, rfl, ?_⟩
      rw [List.take_add_one, hz, List.map_append]
      exact IntsAre.append hzs (.cons _ _ .nil)
    case dfin =>
      intro zs nw hInv
      obtain ⟨rfl, hzs⟩ := hInv
      rw [List.size_toArray, hg1.length, List.take_length] at hzs
      unfold LCg.FinE
      intro D5 h5 tk5 F12 N12 off5
      simp only [LCg.Off1] at off5
      clear F11 N11
      have hd3' : @LT.lt Nat _ (L + 1 + 1 + 1) d := hd3
      (repeat' (first | (k_unfold; (try dsimp only)) | ((((fail_if_success (with_reducible first | show wpAny _ _ (exec (Stmt.For _ _ _ _ _) _) _ _ _ | show wpAny _ _ (exec (Stmt.While _ _ _ _) _) _ _ _ | show wpAny _ _ (pyIter _) _ _ _ | show wpAny _ _ (call (Value.ref _) _ _) _ _ _ | show wpAny _ _ (eval (Expr.Subscript _ (Expr.Slice none (some (Expr.BoolOp _ _ _)) none _) _) _) _ _ _ | show wpAny _ _ (exec (Stmt.If _ [Stmt.Assign [Expr.Tuple _ _ _] _ _] _ _) _) _ _ _ | show wpAny _ _ (exec (Stmt.If (Expr.BoolOp _ _ _) [Stmt.Assign [Expr.Name _ _] (Expr.Subscript _ _ _) _] _ _) _) _ _ _)); fail_if_success (with_reducible first | show wpAny _ _ (eval (Expr.ListComp _ _ _ _) _) _ _ _ | show wpAny _ _ (exec (Stmt.Assign _ (Expr.ListComp _ _ _ _) _) _) _ _ _ | show LCg.CompSrc _ _ _ _ _ _ _ _ _ _ _ _ _ _ | show LCg.CompEnd _ _ _ _ _ _ _ _ _ _ _ _ _ _ | show wpAny _ _ (call (Value.builtin "max") _) _ _ _ | show LCp.SrcLP _ _ _ _ _ _ _ _ _ _ _ _ _ _ _))); walk1) | ((((fail_if_success (with_reducible first | show wpAny _ _ (exec (Stmt.For _ _ _ _ _) _) _ _ _ | show wpAny _ _ (exec (Stmt.While _ _ _ _) _) _ _ _ | show wpAny _ _ (pyIter _) _ _ _ | show wpAny _ _ (call (Value.ref _) _ _) _ _ _ | show wpAny _ _ (eval (Expr.Subscript _ (Expr.Slice none (some (Expr.BoolOp _ _ _)) none _) _) _) _ _ _ | show wpAny _ _ (exec (Stmt.If _ [Stmt.Assign [Expr.Tuple _ _ _] _ _] _ _) _) _ _ _ | show wpAny _ _ (exec (Stmt.If (Expr.BoolOp _ _ _) [Stmt.Assign [Expr.Name _ _] (Expr.Subscript _ _ _) _] _ _) _) _ _ _)); fail_if_success (with_reducible first | show wpAny _ _ (eval (Expr.ListComp _ _ _ _) _) _ _ _ | show wpAny _ _ (exec (Stmt.Assign _ (Expr.ListComp _ _ _ _) _) _) _ _ _ | show LCg.CompSrc _ _ _ _ _ _ _ _ _ _ _ _ _ _ | show LCg.CompEnd _ _ _ _ _ _ _ _ _ _ _ _ _ _ | show wpAny _ _ (call (Value.builtin "max") _) _ _ _ | show LCp.SrcLP _ _ _ _ _ _ _ _ _ _ _ _ _ _ _))); dsimp only; walk1) | (leave1; (try dsimp only)) | fail "no step"))
      rename Fr _ _ _ _ => F13
      rename News _ _ _ _ => N13
      refine led_name N13 ?_
      intro tu e
      subst e
      rename (_ < _ ∧ _) => hlt
      obtain ⟨t1, t2, N14⟩ : ∃ t1 t2, News h₀ L _ ((tu, pairObj ⟨tu, (g.vs.length : Int), t1, (List.map (fun z => D (ls y) (ls z)) g.ss).sum, t2⟩) :: (D5, LCg.lst zs) :: (g.a, PySem.W.listOf g.vs.toArray g.e) :: (I4, oI4) :: (C4, oC4) :: (D4, LCg.lst (ltRefs ts)) :: (d, o) :: (rul, PySem.W.listOf (lwRefs gs).toArray e) :: (L + 1 + 1 + 1, o1) :: (L + 1 + 1, oc) :: (L + 1, ot) :: (tl ++ ltLed ts)) := ⟨_, _, N13⟩
      refine ⟨_, _, (d, o) :: (rul, PySem.W.listOf (lwRefs gs).toArray e) :: (L + 1 + 1 + 1, o1) :: (L + 1 + 1, oc) :: (L + 1, ot) :: (tl ++ ltLed (ts ++ [⟨tu, (g.vs.length : Int), t1, (List.map (fun z => D (ls y) (ls z)) g.ss).sum, t2⟩])), rfl, F13, ?_, LCg.Off3.of ?_, .inr ⟨_, .tail _ (.head _), rfl, _, rfl⟩, ⟨ts ++ [⟨tu, (g.vs.length : Int), t1, (List.map (fun z => D (ls y) (ls z)) g.ss).sum, t2⟩], by rw [List.length_append, hts1]; rfl, ?_, hts2.snoc ?_ ?_ ?_, rfl⟩⟩
      · have el : ltLed (ts ++ [⟨tu, (g.vs.length : Int), t1, (List.map (fun z => D (ls y) (ls z)) g.ss).sum, t2⟩]) = ltLed ts ++ [(tu, pairObj ⟨tu, (g.vs.length : Int), t1, (List.map (fun z => D (ls y) (ls z)) g.ss).sum, t2⟩)] := List.map_append
        rw [el, ← List.append_assoc]
        intro p hp
        rcases List.mem_append.mp (show p ∈ ((I4, oI4) :: (C4, oC4) :: (D4, LCg.lst (ltRefs ts)) :: (d, o) :: (rul, PySem.W.listOf (lwRefs gs).toArray e) :: (L + 1 + 1 + 1, o1) :: (L + 1 + 1, oc) :: (L + 1, ot) :: (tl ++ ltLed ts)) ++ [(tu, pairObj ⟨tu, (g.vs.length : Int), t1, (List.map (fun z => D (ls y) (ls z)) g.ss).sum, t2⟩)] from hp) with hp | hp
        · exact N14 p (.tail _ (.tail _ (.tail _ hp)))
        · rw [List.mem_singleton.mp hp]
          exact N14 _ (.head _)
      · have el : ltLed (ts ++ [⟨tu, (g.vs.length : Int), t1, (List.map (fun z => D (ls y) (ls z)) g.ss).sum, t2⟩]) = ltLed ts ++ [(tu, pairObj ⟨tu, (g.vs.length : Int), t1, (List.map (fun z => D (ls y) (ls z)) g.ss).sum, t2⟩)] := List.map_append
        rw [el, ← List.append_assoc]
        intro p hp
        rcases List.mem_append.mp (show p ∈ ((d, o) :: (rul, PySem.W.listOf (lwRefs gs).toArray e) :: (L + 1 + 1 + 1, o1) :: (L + 1 + 1, oc) :: (L + 1, ot) :: (tl ++ ltLed ts)) ++ [(tu, pairObj ⟨tu, (g.vs.length : Int), t1, (List.map (fun z => D (ls y) (ls z)) g.ss).sum, t2⟩)] from hp) with hp | hp
        · exact off4m p hp
        · rw [List.mem_singleton.mp hp]
          exact ⟨Nat.ne_of_gt hlt.2.2.1, Nat.ne_of_gt hlt.2.2.2.1, Nat.ne_of_gt hlt.2.2.2.2.1⟩
      · unfold ltRefs
        rw [List.map_append]
        rfl
      · show (g.vs.length : Int) = ((ruler (ls x) ts.length).length : Int)
        rw [hts1, hgv]
      · show (List.map (fun z => D (ls y) (ls z)) g.ss).sum = sumD (ls y) (ruler (ls x) ts.length)
        rw [hts1, ← hg2]
        exact sumD_map _ _
      · exact Nat.lt_trans hd3' hlt.2.2.2.2.2.1
end Mine
end

section
namespace Mine
/-- the i-th pair is as P tells -/
noncomputable def LtP (P : Nat → Int → Int → Prop) (L : Addr) (ts : List LwT) : Prop := (∀ (j : Nat) (t : LwT), ts[j]? = some t → P j t.n t.c) ∧ ∀ t ∈ ts, @LT.lt Nat _ (L + 1 + 1 + 1) t.a
theorem LtP.snoc {P : Nat → Int → Int → Prop} {L : Addr} {ts : List LwT} (h : LtP P L ts) {t : LwT} (h1 : P ts.length t.n t.c) (h3 : @LT.lt Nat _ (L + 1 + 1 + 1) t.a) : LtP P L (ts ++ [t]) := by
  refine ⟨fun j q hq => ?_, fun q hq => ?_⟩
  · rcases Nat.lt_or_ge j ts.length with hj | hj
    · rw [List.getElem?_append_left hj] at hq
      exact h.1 j q hq
    · rw [List.getElem?_append_right hj] at hq
      obtain ⟨k, hk⟩ : ∃ k, j - ts.length = k := ⟨_, rfl⟩
      rw [hk] at hq
      cases k with
      | zero =>
        have : t = q := Option.some.inj hq
        subst this
        have e : j = ts.length := by exact om76 hj hk
        rw [e]
        exact h1
      | succ k => simp at hq
  · rcases List.mem_append.mp hq with hq | hq
    · exact h.2 q hq
    · rw [List.mem_singleton.mp hq]; exact h3
/-- what the j-th toll tells -/
noncomputable def TollP (W T : List Nat) (j : Nat) (n v : Int) : Prop := n = -4 + (j : Int) ∧ ∃ cc : Nat → Int, IsDp W T n cc T.length ∧ v = cc T.length
theorem SpP.use {w : World} {mean : ExcName → Option Value} {mg mb : Str → Option Value} {f : Addr} {dd uu : Nat} {Pre : List (Addr × Obj) → Prop} {vs : List Value} {R : Value → Prop} (H : SpP w mean mg mb f dd uu Pre vs R)
    {news : List (Addr × Obj)} {dp un : Nat} {gd : Option (List Code)} {cn : Str} {cs : Scope} {a : Addr} {ccd : Value} {cl : List (Str × Addr)} {outer : List Env} {A₀ : Around} {base h₀ : Heap} {L : Addr} {m : Str → Option Value} {s : Shared} {Q E : Value → Shared → Prop}
    (B : Below A₀ base outer h₀) (F : Fr h₀ L s.heap m) (X : (hd.heap_39 w.params).In h₀) (N : News h₀ L s.heap news) (T : Top hd.view_39 (looseW hd.view_39 []) mean mg mb h₀) (hk : cs.kind = .function)
    (hdp : dp + dd < recursionLimit) (hun : un + uu < cLine) (hpre : Pre news)
    (ret : ∀ (v : Value) (h' : Heap) (tk' : Nat), R v → Fr h₀ L h' m → News h₀ L h' news → Q v { s with heap := h', toks := tk' }) :
    wpAny (model Challenge.rw_ph0059_01.row.prog w) (ktrTop dp un gd cn cs L a ccd cl outer) (call (.ref f) vs) Q E s := H _ _ _ _ _ _ _ _ _ _ _ _ _ _ _ _ _ _ B F X N T hk hdp hun hpre ret
theorem phase3c (w : World) (mean : ExcName → Option Value) (mg mb : Str → Option Value) (dp un : Nat) (gd : Option (List Code)) (cd : Value) (L fa : Addr) (o1 o oc ot : Obj) (A₀ : Around) (base h₀ : Heap) (s : Shared) (Q : Flow → Shared → Prop)
    (tot : Int) (tt : Tok) (x : Str) (tx : Tok) (y : Str) (ty : Tok) (d cs : Addr) (ts : List LwT) (u : Str → Option Value) (c : List (Str × Int))
    (hB : Below A₀ base [] h₀) (hF : Fr h₀ L s.heap (fun z => if z = Str.ofString "costs" then some (Value.ref cs) else if z = Str.ofString "word" then some (Value.str y ty) else if z = Str.ofString "total" then some (Value.int tot tt) else u z))
    (hX : (hd.heap_39 w.params).In h₀) (hN : News h₀ L s.heap ((cs, LCg.lst (ltRefs ts)) :: (d, o) :: (L + 1 + 1 + 1, o1) :: (L + 1 + 1, oc) :: (L + 1, ot) :: ltLed ts)) (hT : Top hd.view_39 (looseW hd.view_39 []) mean mg mb h₀)
    (hx3 : 3 ≤ x.length) (hx : x.length ≤ 5) (hds : (d == sysModules) = false) (hTD : TDict w o c) (hTells : Tells' (ls y) c) (hhas : ∀ i j : Nat, i < j → j ≤ x.length → kdpHas c (Txt.slice x (some (i : Int)) (some (j : Int))) = true)
    (hoc : oc.data = .cell (some (.ref d))) (hot : ot.data = .cell (some (.str x tx))) (hdp : dp + 20 < recursionLimit) (hun : un + 200 < cLine) (hd3 : L + 1 + 1 + 1 < d)
    (ret : ∀ (h' : Heap) (tk' : Nat) (to : Addr) (us : List LwT), us.length = 9 → LtP (TollP (ls y) (ls x)) L us → (∀ p ∈ (cs, LCg.lst (ltRefs ts)) :: (L + 1 + 1 + 1, o1) :: (L + 1 + 1, oc) :: (L + 1, ot) :: (ltLed ts ++ ltLed us), p.1 ≠ to) →
      Fr h₀ L h' (fun z => if z = Str.ofString "tolls" then some (Value.ref to) else if z = Str.ofString "costs" then some (Value.ref cs) else if z = Str.ofString "word" then some (Value.str y ty) else if z = Str.ofString "total" then some (Value.int tot tt) else u z) →
      News h₀ L h' ((to, LCg.lst (ltRefs us)) :: (cs, LCg.lst (ltRefs ts)) :: (L + 1 + 1 + 1, o1) :: (L + 1 + 1, oc) :: (L + 1, ot) :: (ltLed ts ++ ltLed us)) → Q .next { s with heap := h', toks := tk' }) :
    wpAny (model Challenge.rw_ph0059_01.row.prog w) (lawTop w dp un gd L fa cd) (execs (((lawDef w).body.drop 9).take 1) (lawEnv w L fa cd)) Q (fun _ _ => False) s := by
  k_fill
  (try dsimp only [lawDef, List.take, List.drop, lawTop, lawEnv, lawCl])
  w_on
  obtain ⟨tl, htl⟩ : ∃ tl, tl = ltLed ts := ⟨_, rfl⟩
  rw [← htl] at hN ret
  (repeat' (first | (k_unfold; (try dsimp only)) | ((((fail_if_success (with_reducible first | show wpAny _ _ (exec (Stmt.For _ _ _ _ _) _) _ _ _ | show wpAny _ _ (exec (Stmt.While _ _ _ _) _) _ _ _ | show wpAny _ _ (pyIter _) _ _ _ | show wpAny _ _ (call (Value.ref _) _ _) _ _ _ | show wpAny _ _ (eval (Expr.Subscript _ (Expr.Slice none (some (Expr.BoolOp _ _ _)) none _) _) _) _ _ _ | show wpAny _ _ (exec (Stmt.If _ [Stmt.Assign [Expr.Tuple _ _ _] _ _] _ _) _) _ _ _ | show wpAny _ _ (exec (Stmt.If (Expr.BoolOp _ _ _) [Stmt.Assign [Expr.Name _ _] (Expr.Subscript _ _ _) _] _ _) _) _ _ _)); fail_if_success (with_reducible first | show wpAny _ _ (eval (Expr.ListComp _ _ _ _) _) _ _ _ | show wpAny _ _ (exec (Stmt.Assign _ (Expr.ListComp _ _ _ _) _) _) _ _ _ | show LCg.CompSrc _ _ _ _ _ _ _ _ _ _ _ _ _ _ | show LCg.CompEnd _ _ _ _ _ _ _ _ _ _ _ _ _ _ | show wpAny _ _ (call (Value.builtin "max") _) _ _ _ | show LCp.SrcLP _ _ _ _ _ _ _ _ _ _ _ _ _ _ _))); walk1) | ((((fail_if_success (with_reducible first | show wpAny _ _ (exec (Stmt.For _ _ _ _ _) _) _ _ _ | show wpAny _ _ (exec (Stmt.While _ _ _ _) _) _ _ _ | show wpAny _ _ (pyIter _) _ _ _ | show wpAny _ _ (call (Value.ref _) _ _) _ _ _ | show wpAny _ _ (eval (Expr.Subscript _ (Expr.Slice none (some (Expr.BoolOp _ _ _)) none _) _) _) _ _ _ | show wpAny _ _ (exec (Stmt.If _ [Stmt.Assign [Expr.Tuple _ _ _] _ _] _ _) _) _ _ _ | show wpAny _ _ (exec (Stmt.If (Expr.BoolOp _ _ _) [Stmt.Assign [Expr.Name _ _] (Expr.Subscript _ _ _) _] _ _) _) _ _ _)); fail_if_success (with_reducible first | show wpAny _ _ (eval (Expr.ListComp _ _ _ _) _) _ _ _ | show wpAny _ _ (exec (Stmt.Assign _ (Expr.ListComp _ _ _ _) _) _) _ _ _ | show LCg.CompSrc _ _ _ _ _ _ _ _ _ _ _ _ _ _ | show LCg.CompEnd _ _ _ _ _ _ _ _ _ _ _ _ _ _ | show wpAny _ _ (call (Value.builtin "max") _) _ _ _ | show LCp.SrcLP _ _ _ _ _ _ _ _ _ _ _ _ _ _ _))); dsimp only; walk1) | (leave1; (try dsimp only)) | fail "no step"))
  k_dflt (refine LCg.Assign_ListComp_U (F₀ := by k_asm) (by rfl) (by with_unfolding_all rfl) (by with_unfolding_all rfl) (by decide) (by rfl) (by decide) (by rfl) (by rfl) (by rfl) ?_)
  (repeat' (first | (k_unfold; (try dsimp only)) | ((((fail_if_success (with_reducible first | show wpAny _ _ (exec (Stmt.For _ _ _ _ _) _) _ _ _ | show wpAny _ _ (exec (Stmt.While _ _ _ _) _) _ _ _ | show wpAny _ _ (pyIter _) _ _ _ | show wpAny _ _ (call (Value.ref _) _ _) _ _ _ | show wpAny _ _ (eval (Expr.Subscript _ (Expr.Slice none (some (Expr.BoolOp _ _ _)) none _) _) _) _ _ _ | show wpAny _ _ (exec (Stmt.If _ [Stmt.Assign [Expr.Tuple _ _ _] _ _] _ _) _) _ _ _ | show wpAny _ _ (exec (Stmt.If (Expr.BoolOp _ _ _) [Stmt.Assign [Expr.Name _ _] (Expr.Subscript _ _ _) _] _ _) _) _ _ _)); fail_if_success (with_reducible first | show wpAny _ _ (eval (Expr.ListComp _ _ _ _) _) _ _ _ | show wpAny _ _ (exec (Stmt.Assign _ (Expr.ListComp _ _ _ _) _) _) _ _ _ | show LCg.CompSrc _ _ _ _ _ _ _ _ _ _ _ _ _ _ | show LCg.CompEnd _ _ _ _ _ _ _ _ _ _ _ _ _ _ | show wpAny _ _ (call (Value.builtin "max") _) _ _ _ | show LCp.SrcLP _ _ _ _ _ _ _ _ _ _ _ _ _ _ _))); walk1) | ((((fail_if_success (with_reducible first | show wpAny _ _ (exec (Stmt.For _ _ _ _ _) _) _ _ _ | show wpAny _ _ (exec (Stmt.While _ _ _ _) _) _ _ _ | show wpAny _ _ (pyIter _) _ _ _ | show wpAny _ _ (call (Value.ref _) _ _) _ _ _ | show wpAny _ _ (eval (Expr.Subscript _ (Expr.Slice none (some (Expr.BoolOp _ _ _)) none _) _) _) _ _ _ | show wpAny _ _ (exec (Stmt.If _ [Stmt.Assign [Expr.Tuple _ _ _] _ _] _ _) _) _ _ _ | show wpAny _ _ (exec (Stmt.If (Expr.BoolOp _ _ _) [Stmt.Assign [Expr.Name _ _] (Expr.Subscript _ _ _) _] _ _) _) _ _ _)); fail_if_success (with_reducible first | show wpAny _ _ (eval (Expr.ListComp _ _ _ _) _) _ _ _ | show wpAny _ _ (exec (Stmt.Assign _ (Expr.ListComp _ _ _ _) _) _) _ _ _ | show LCg.CompSrc _ _ _ _ _ _ _ _ _ _ _ _ _ _ | show LCg.CompEnd _ _ _ _ _ _ _ _ _ _ _ _ _ _ | show wpAny _ _ (call (Value.builtin "max") _) _ _ _ | show LCp.SrcLP _ _ _ _ _ _ _ _ _ _ _ _ _ _ _))); dsimp only; walk1) | (leave1; (try dsimp only)) | fail "no step"))
  rename Fr _ _ _ _ => F8
  rename News _ _ _ _ => N8
  rename IsRange _ _ _ _ _ _ _ _ => rgY
  refine LCg.CompSrc.range (n := 9) (by rfl) F8 N8 rgY (by decide) (by rfl) (by rw [sizeLine_eq]; omega) ?_
  intro g9
  refine comp_inv (fun j ws nw => ∃ us : List LwT, us.length = j ∧ ws = ltRefs us ∧ LtP (TollP (ls y) (ls x)) L us ∧ nw = (cs, LCg.lst (ltRefs ts)) :: (d, o) :: (L + 1 + 1 + 1, o1) :: (L + 1 + 1, oc) :: (L + 1, ot) :: (tl ++ ltLed us)) ⟨[], rfl, rfl, ⟨(fun _ _ h => nomatch h), (fun _ h => nomatch h)⟩, by rw [show ltLed [] = [] from rfl, List.append_nil]⟩ ?cfin ?cstep
  case cfin =>
    intro ws nw hInv
    obtain ⟨us, hts1, rfl, hts2, rfl⟩ := hInv
    unfold LCg.FinA
    intro D5 h5 tk5 F12 N12 off5
    clear F8 N8
    have off6 : ∀ p ∈ (cs, LCg.lst (ltRefs ts)) :: (d, o) :: (L + 1 + 1 + 1, o1) :: (L + 1 + 1, oc) :: (L + 1, ot) :: (tl ++ ltLed us), p.1 ≠ D5 := off1_mem off5
    clear off5
    (try dsimp only at F12 N12 ⊢)
    have hsub : ∀ p ∈ (cs, LCg.lst (ltRefs ts)) :: (L + 1 + 1 + 1, o1) :: (L + 1 + 1, oc) :: (L + 1, ot) :: (tl ++ ltLed us), p ∈ (cs, LCg.lst (ltRefs ts)) :: (d, o) :: (L + 1 + 1 + 1, o1) :: (L + 1 + 1, oc) :: (L + 1, ot) :: (tl ++ ltLed us) := by
      intro p hp
      rcases List.mem_cons.mp hp with rfl | hp
      · exact .head _
      · exact .tail _ (.tail _ hp)
    (repeat' (first | (k_unfold; (try dsimp only)) | ((((fail_if_success (with_reducible first | show wpAny _ _ (exec (Stmt.For _ _ _ _ _) _) _ _ _ | show wpAny _ _ (exec (Stmt.While _ _ _ _) _) _ _ _ | show wpAny _ _ (pyIter _) _ _ _ | show wpAny _ _ (call (Value.ref _) _ _) _ _ _ | show wpAny _ _ (eval (Expr.Subscript _ (Expr.Slice none (some (Expr.BoolOp _ _ _)) none _) _) _) _ _ _ | show wpAny _ _ (exec (Stmt.If _ [Stmt.Assign [Expr.Tuple _ _ _] _ _] _ _) _) _ _ _ | show wpAny _ _ (exec (Stmt.If (Expr.BoolOp _ _ _) [Stmt.Assign [Expr.Name _ _] (Expr.Subscript _ _ _) _] _ _) _) _ _ _)); fail_if_success (with_reducible first | show wpAny _ _ (eval (Expr.ListComp _ _ _ _) _) _ _ _ | show wpAny _ _ (exec (Stmt.Assign _ (Expr.ListComp _ _ _ _) _) _) _ _ _ | show LCg.CompSrc _ _ _ _ _ _ _ _ _ _ _ _ _ _ | show LCg.CompEnd _ _ _ _ _ _ _ _ _ _ _ _ _ _ | show wpAny _ _ (call (Value.builtin "max") _) _ _ _ | show LCp.SrcLP _ _ _ _ _ _ _ _ _ _ _ _ _ _ _))); walk1) | ((((fail_if_success (with_reducible first | show wpAny _ _ (exec (Stmt.For _ _ _ _ _) _) _ _ _ | show wpAny _ _ (exec (Stmt.While _ _ _ _) _) _ _ _ | show wpAny _ _ (pyIter _) _ _ _ | show wpAny _ _ (call (Value.ref _) _ _) _ _ _ | show wpAny _ _ (eval (Expr.Subscript _ (Expr.Slice none (some (Expr.BoolOp _ _ _)) none _) _) _) _ _ _ | show wpAny _ _ (exec (Stmt.If _ [Stmt.Assign [Expr.Tuple _ _ _] _ _] _ _) _) _ _ _ | show wpAny _ _ (exec (Stmt.If (Expr.BoolOp _ _ _) [Stmt.Assign [Expr.Name _ _] (Expr.Subscript _ _ _) _] _ _) _) _ _ _)); fail_if_success (with_reducible first | show wpAny _ _ (eval (Expr.ListComp _ _ _ _) _) _ _ _ | show wpAny _ _ (exec (Stmt.Assign _ (Expr.ListComp _ _ _ _) _) _) _ _ _ | show LCg.CompSrc _ _ _ _ _ _ _ _ _ _ _ _ _ _ | show LCg.CompEnd _ _ _ _ _ _ _ _ _ _ _ _ _ _ | show wpAny _ _ (call (Value.builtin "max") _) _ _ _ | show LCp.SrcLP _ _ _ _ _ _ _ _ _ _ _ _ _ _ _))); dsimp only; walk1) | (leave1; (try dsimp only)) | fail "no step"))
    refine ret _ _ D5 us hts1 hts2 (fun p hp => off6 p (hsub p hp)) (by assumption) (fun p hp => ?_)
    rcases List.mem_cons.mp hp with rfl | hp
    · exact N12 _ (.head _)
    · exact N12 p (.tail _ (hsub p hp))
  case cstep =>
    intro j ws nw v I4 oI4 C4 oC4 D4 m4 h4 tk4 E4 hj hInv hP4 hC4 hx4 F9 N9 off4 hne4
    obtain ⟨us, hts1, rfl, hts2, rfl⟩ := hInv
    obtain ⟨tv, rfl⟩ := hP4
    have off4m := off4.mem
    simp only [LCg.Off3] at off4
    clear F8 N8
    have hd3' : @LT.lt Nat _ (L + 1 + 1 + 1) d := hd3
    (try dsimp only at F9 N9 ⊢)
    (repeat' (first | (k_unfold; (try dsimp only)) | ((((fail_if_success (with_reducible first | show wpAny _ _ (exec (Stmt.For _ _ _ _ _) _) _ _ _ | show wpAny _ _ (exec (Stmt.While _ _ _ _) _) _ _ _ | show wpAny _ _ (pyIter _) _ _ _ | show wpAny _ _ (call (Value.ref _) _ _) _ _ _ | show wpAny _ _ (eval (Expr.Subscript _ (Expr.Slice none (some (Expr.BoolOp _ _ _)) none _) _) _) _ _ _ | show wpAny _ _ (exec (Stmt.If _ [Stmt.Assign [Expr.Tuple _ _ _] _ _] _ _) _) _ _ _ | show wpAny _ _ (exec (Stmt.If (Expr.BoolOp _ _ _) [Stmt.Assign [Expr.Name _ _] (Expr.Subscript _ _ _) _] _ _) _) _ _ _)); fail_if_success (with_reducible first | show wpAny _ _ (eval (Expr.ListComp _ _ _ _) _) _ _ _ | show wpAny _ _ (exec (Stmt.Assign _ (Expr.ListComp _ _ _ _) _) _) _ _ _ | show LCg.CompSrc _ _ _ _ _ _ _ _ _ _ _ _ _ _ | show LCg.CompEnd _ _ _ _ _ _ _ _ _ _ _ _ _ _ | show wpAny _ _ (call (Value.builtin "max") _) _ _ _ | show LCp.SrcLP _ _ _ _ _ _ _ _ _ _ _ _ _ _ _))); walk1) | ((((fail_if_success (with_reducible first | show wpAny _ _ (exec (Stmt.For _ _ _ _ _) _) _ _ _ | show wpAny _ _ (exec (Stmt.While _ _ _ _) _) _ _ _ | show wpAny _ _ (pyIter _) _ _ _ | show wpAny _ _ (call (Value.ref _) _ _) _ _ _ | show wpAny _ _ (eval (Expr.Subscript _ (Expr.Slice none (some (Expr.BoolOp _ _ _)) none _) _) _) _ _ _ | show wpAny _ _ (exec (Stmt.If _ [Stmt.Assign [Expr.Tuple _ _ _] _ _] _ _) _) _ _ _ | show wpAny _ _ (exec (Stmt.If (Expr.BoolOp _ _ _) [Stmt.Assign [Expr.Name _ _] (Expr.Subscript _ _ _) _] _ _) _) _ _ _)); fail_if_success (with_reducible first | show wpAny _ _ (eval (Expr.ListComp _ _ _ _) _) _ _ _ | show wpAny _ _ (exec (Stmt.Assign _ (Expr.ListComp _ _ _ _) _) _) _ _ _ | show LCg.CompSrc _ _ _ _ _ _ _ _ _ _ _ _ _ _ | show LCg.CompEnd _ _ _ _ _ _ _ _ _ _ _ _ _ _ | show wpAny _ _ (call (Value.builtin "max") _) _ _ _ | show LCp.SrcLP _ _ _ _ _ _ _ _ _ _ _ _ _ _ _))); dsimp only; walk1) | (leave1; (try dsimp only)) | fail "no step"))
    k_dflt (refine' SpP.use (toll_spec _ _ _ _ d o c (ls y) x _ _ _ hx3 hx hTD hTells hhas hds) ?k1 ?k2 ?k3 ?k4 ?k5 ?kK ?kd ?ku (.tail _ (.tail _ (.tail _ (.tail _ (.head _))))) ?_)
    (((case k1 | k2 | k3 | k4 | k5 => k_asm); (case kK => first | exact rfl | assumption); (case kd => first | exact Mine.room_up (by assumption) (by first | decide | omega) | exact Mine.room_0 (by assumption) (by first | decide | omega) | ktr_room); (case ku => first | exact Mine.room_up (by assumption) (by first | decide | omega) | exact Mine.room_0 (by assumption) (by first | decide | omega) | ktr_units)))
    intro v6 h6 tk6 hR F10 N10
    (try dsimp only)
    obtain ⟨cc, t6, hcc, rfl⟩ := hR
    (repeat' (first | (k_unfold; (try dsimp only)) | ((((fail_if_success (with_reducible first | show wpAny _ _ (exec (Stmt.For _ _ _ _ _) _) _ _ _ | show wpAny _ _ (exec (Stmt.While _ _ _ _) _) _ _ _ | show wpAny _ _ (pyIter _) _ _ _ | show wpAny _ _ (call (Value.ref _) _ _) _ _ _ | show wpAny _ _ (eval (Expr.Subscript _ (Expr.Slice none (some (Expr.BoolOp _ _ _)) none _) _) _) _ _ _ | show wpAny _ _ (exec (Stmt.If _ [Stmt.Assign [Expr.Tuple _ _ _] _ _] _ _) _) _ _ _ | show wpAny _ _ (exec (Stmt.If (Expr.BoolOp _ _ _) [Stmt.Assign [Expr.Name _ _] (Expr.Subscript _ _ _) _] _ _) _) _ _ _)); fail_if_success (with_reducible first | show wpAny _ _ (eval (Expr.ListComp _ _ _ _) _) _ _ _ | show wpAny _ _ (exec (Stmt.Assign _ (Expr.ListComp _ _ _ _) _) _) _ _ _ | show LCg.CompSrc _ _ _ _ _ _ _ _ _ _ _ _ _ _ | show LCg.CompEnd _ _ _ _ _ _ _ _ _ _ _ _ _ _ | show wpAny _ _ (call (Value.builtin "max") _) _ _ _ | show LCp.SrcLP _ _ _ _ _ _ _ _ _ _ _ _ _ _ _))); walk1) | ((((fail_if_success (with_reducible first | show wpAny _ _ (exec (Stmt.For _ _ _ _ _) _) _ _ _ | show wpAny _ _ (exec (Stmt.While _ _ _ _) _) _ _ _ | show wpAny _ _ (pyIter _) _ _ _ | show wpAny _ _ (call (Value.ref _) _ _) _ _ _ | show wpAny _ _ (eval (Expr.Subscript _ (Expr.Slice none (some (Expr.BoolOp _ _ _)) none _) _) _) _ _ _ | show wpAny _ _ (exec (Stmt.If _ [Stmt.Assign [Expr.Tuple _ _ _] _ _] _ _) _) _ _ _ | show wpAny _ _ (exec (Stmt.If (Expr.BoolOp _ _ _) [Stmt.Assign [Expr.Name _ _] (Expr.Subscript _ _ _) _] _ _) _) _ _ _)); fail_if_success (with_reducible first | show wpAny _ _ (eval (Expr.ListComp _ _ _ _) _) _ _ _ | show wpAny _ _ (exec (Stmt.Assign _ (Expr.ListComp _ _ _ _) _) _) _ _ _ | show LCg.CompSrc _ _ _ _ _ _ _ _ _ _ _ _ _ _ | show LCg.CompEnd _ _ _ _ _ _ _ _ _ _ _ _ _ _ | show wpAny _ _ (call (Value.builtin "max") _) _ _ _ | show LCp.SrcLP _ _ _ _ _ _ _ _ _ _ _ _ _ _ _))); dsimp only; walk1) | (leave1; (try dsimp only)) | fail "no step"))
    rename Fr _ _ _ _ => F13
    rename News _ _ _ _ => N13
    refine led_name N13 ?_
    intro tu e
    subst e
    rename (_ < _ ∧ _) => hlt
    obtain ⟨t1, N14⟩ : ∃ t1, News h₀ L _ ((tu, pairObj ⟨tu, -4 + (j : Int), t1, cc x.length, t6⟩) :: (I4, oI4) :: (C4, oC4) :: (D4, LCg.lst (ltRefs us)) :: (cs, LCg.lst (ltRefs ts)) :: (d, o) :: (L + 1 + 1 + 1, o1) :: (L + 1 + 1, oc) :: (L + 1, ot) :: (tl ++ ltLed us)) := ⟨_, N13⟩
    have el : ltLed (us ++ [⟨tu, -4 + (j : Int), t1, cc x.length, t6⟩]) = ltLed us ++ [(tu, pairObj ⟨tu, -4 + (j : Int), t1, cc x.length, t6⟩)] := List.map_append
    refine ⟨_, _, (cs, LCg.lst (ltRefs ts)) :: (d, o) :: (L + 1 + 1 + 1, o1) :: (L + 1 + 1, oc) :: (L + 1, ot) :: (tl ++ ltLed (us ++ [⟨tu, -4 + (j : Int), t1, cc x.length, t6⟩])), rfl, F13, ?_, LCg.Off3.of ?_, True.intro, ⟨us ++ [⟨tu, -4 + (j : Int), t1, cc x.length, t6⟩], by rw [List.length_append, hts1]; rfl, ?_, hts2.snoc ⟨?_, cc, ?_, ?_⟩ ?_, rfl⟩⟩
    · rw [el, ← List.append_assoc]
      intro p hp
      rcases List.mem_append.mp (show p ∈ ((I4, oI4) :: (C4, oC4) :: (D4, LCg.lst (ltRefs us)) :: (cs, LCg.lst (ltRefs ts)) :: (d, o) :: (L + 1 + 1 + 1, o1) :: (L + 1 + 1, oc) :: (L + 1, ot) :: (tl ++ ltLed us)) ++ [(tu, pairObj ⟨tu, -4 + (j : Int), t1, cc x.length, t6⟩)] from hp) with hp | hp
      · exact N14 p (.tail _ hp)
      · rw [List.mem_singleton.mp hp]
        exact N14 _ (.head _)
    · rw [el, ← List.append_assoc]
      intro p hp
      rcases List.mem_append.mp (show p ∈ ((cs, LCg.lst (ltRefs ts)) :: (d, o) :: (L + 1 + 1 + 1, o1) :: (L + 1 + 1, oc) :: (L + 1, ot) :: (tl ++ ltLed us)) ++ [(tu, pairObj ⟨tu, -4 + (j : Int), t1, cc x.length, t6⟩)] from hp) with hp | hp
      · exact off4m p hp
      · rw [List.mem_singleton.mp hp]
        exact ⟨Nat.ne_of_gt hlt.1, Nat.ne_of_gt hlt.2.1, Nat.ne_of_gt hlt.2.2.1⟩
    · unfold ltRefs
      rw [List.map_append]
      rfl
    · show -4 + (j : Int) = -4 + (us.length : Int)
      rw [hts1]
    · show IsDp (ls y) (ls x) (-4 + (j : Int)) cc (ls x).length
      rw [ls_len]; exact hcc
    · show cc x.length = cc (ls x).length
      rw [ls_len]
    · exact Nat.lt_trans hd3' hlt.2.2.2.2.1
end Mine
end

section
namespace Mine
theorem ls_mul {y : Str} (hy : y.length = 2) {i : Nat} (hi : i < 5) : ls (Txt.mul y (i : Int)) = rep (ls y) i := by
  have h2 : (y.length == 0) = false := by rw [hy]; rfl
  have hc : i = 0 ∨ i = 1 ∨ i = 2 ∨ i = 3 ∨ i = 4 := on_lt5 hi
  rcases hc with rfl | rfl | rfl | rfl | rfl
  · rfl
  · show ls (Txt.mul y 1) = ls y ++ []
    rw [List.append_nil]
    rfl
  all_goals
    unfold Txt.mul
    rw [if_neg (by decide), if_neg (by rw [h2]; decide)]
    simp [ls, rep_0, rep_s, List.replicate]
theorem rep_mem {W : List Nat} {c : Nat} : ∀ k, c ∈ rep W k → c ∈ W
  | 0, h => by cases h
  | k + 1, h => (List.mem_append.mp h).elim id (rep_mem k)
theorem rep_len (W : List Nat) : ∀ k, (rep W k).length = W.length * k
  | 0 => rfl
  | k + 1 => by
    show (W ++ rep W k).length = _
    rw [List.length_append, rep_len W k, Nat.mul_succ, Nat.add_comm]
theorem sizes_zero : ∀ k : Nat, sizesOf 0 k = [(k : Int) + 1]
  | 0 => rfl
  | k + 1 => by
    have hb : bitAt 0 k = false := by simp [bitAt]
    show stepS (sizesOf 0 k) (bitAt 0 k) = _
    rw [hb, sizes_zero k]
    simp [stepS]
theorem ruler_one {T : List Nat} (hT : 1 ≤ T.length) : (ruler T 0).length = 1 := by
  have h := (ruler_flat hT 0).2
  rw [sizes_zero] at h
  have := congrArg List.length h
  unfold lens at this
  rw [List.length_map] at this
  exact this
/-- the prices of the rulers with no more groups than i, as the law lists them -/
noncomputable def cheapL (W T : List Nat) (i j : Nat) : List Int := ((List.range j).filter fun b => decide (((ruler T b).length : Int) ≤ (i : Int))).map fun b => sumD W (ruler T b) + 4 * ((i : Int) - (ruler T b).length)
theorem cheapL_pos {W T : List Nat} (hT : 1 ≤ T.length) {i : Nat} (hi : 1 ≤ i) : 0 < (cheapL W T i (2 ^ (T.length - 1))).length := by
  unfold cheapL
  rw [List.length_map]
  refine List.length_pos_of_mem (a := 0) (List.mem_filter.mpr ⟨List.mem_range.mpr (Nat.pow_pos (by decide)), ?_⟩)
  rw [ruler_one hT]
  exact decide_eq_true (by omega)
theorem cheapL_is {W T : List Nat} (hW : W.length = 2) (hT : 1 ≤ T.length) {i : Nat} (hi : 1 ≤ i) {M : Int} (h1 : M ∈ cheapL W T i (2 ^ (T.length - 1))) (h2 : ∀ a, a ∈ cheapL W T i (2 ^ (T.length - 1)) → M ≤ a) : M = f W T i := by
  unfold cheapL at h1 h2
  refine cheap_is hT hi ?_ ?_
  · obtain ⟨b, hb, e⟩ := List.mem_map.mp h1
    obtain ⟨hb1, hb2⟩ := List.mem_filter.mp hb
    have hb3 := of_decide_eq_true hb2
    refine ⟨b, List.mem_range.mp hb1, by omega, ?_⟩
    rw [← e, hW]
    omega
  · intro b hb hl
    have := h2 _ (List.mem_map_of_mem (List.mem_filter.mpr ⟨List.mem_range.mpr hb, decide_eq_true (by exact om85 hl)⟩))
    rw [hW]
    omega
theorem cheapL_in {W T : List Nat} {i j : Nat} (h : ((ruler T j).length : Int) ≤ (i : Int)) : cheapL W T i (j + 1) = cheapL W T i j ++ [sumD W (ruler T j) + 4 * ((i : Int) - (ruler T j).length)] := by
  unfold cheapL
  rw [List.range_succ, List.filter_append, List.map_append, List.filter_cons_of_pos (p := fun b => decide (((ruler T b).length : Int) ≤ (i : Int))) (decide_eq_true h), List.filter_nil]
  rfl
theorem cheapL_out {W T : List Nat} {i j : Nat} (h : ¬ ((ruler T j).length : Int) ≤ (i : Int)) : cheapL W T i (j + 1) = cheapL W T i j := by
  unfold cheapL
  rw [List.range_succ, List.filter_append, List.map_append, List.filter_cons_of_neg (p := fun b => decide (((ruler T b).length : Int) ≤ (i : Int))) (by rw [decide_eq_false h]; decide), List.filter_nil]
  exact List.append_nil _
theorem dear_is {W T : List Nat} {L : Addr} {us : List LwT} (hW : W.length = 2) (hul : us.length = 9) (hus : LtP (TollP W T) L us) {i : Nat} (hi : 1 ≤ i) {M : Int} (h1 : M ∈ us.map fun t => t.n * (i : Int) + t.c) (h2 : ∀ a, a ∈ (us.map fun t => t.n * (i : Int) + t.c) → a ≤ M) : M = f W T i := by
  apply Int.le_antisymm
  · obtain ⟨t, ht, rfl⟩ := List.mem_map.mp h1
    obtain ⟨j, hj, e⟩ := List.mem_iff_getElem.mp ht
    obtain ⟨hn, cc, hcc, hv⟩ := hus.1 j t (by rw [List.getElem?_eq_getElem hj, e])
    rw [hv]
    refine dear_le hcc ?_ hi
    rw [hn, hW]
    omega
  · have hs := slope_in W T i
    rw [hW] at hs
    obtain ⟨j, hj⟩ : ∃ j : Nat, f W T (i + 1) - f W T i = -4 + (j : Int) := ⟨(f W T (i + 1) - f W T i + 4).toNat, by omega⟩
    have hj9 : j < us.length := by omega
    obtain ⟨hn, cc, hcc, hv⟩ := hus.1 j us[j] (List.getElem?_eq_getElem hj9)
    rw [hn, ← hj] at hcc
    have h3 := dear_ge hcc
    have h4 := h2 _ (List.mem_map_of_mem (List.getElem_mem hj9))
    rw [hv, hn, ← hj] at h4
    exact Int.le_trans h3 h4
structure PhC where
  o : Obj
  u : Str → Option Value
theorem ph4_end {h₀ h : Heap} {L I to cs : Addr} {oI o9 ot o' : Obj} {us ts : List LwT} {tl : List (Addr × Obj)} {m9 : Str → Option Value} {y : Str} {ty tt : Tok} {tot : Int} {i : Nat} {v9 : Value} {s₁ : Shared} {Q : Flow → Shared → Prop} {gs : Array GenState} {tk : Nat}
    (F : Fr h₀ L h m9) (N : News h₀ L h ((I, oI) :: (to, LCg.lst (ltRefs us)) :: (cs, LCg.lst (ltRefs ts)) :: (L + 1 + 1 + 1, o9) :: (L + 1, ot) :: tl)) (ho9 : o9.data = .cell (some v9))
    (q1 : m9 (Str.ofString "tolls") = some (.ref to)) (q2 : m9 (Str.ofString "costs") = some (.ref cs)) (q3 : m9 (Str.ofString "word") = some (.str y ty)) (q4 : m9 (Str.ofString "total") = some (.int tot tt))
    (hne : ∀ p ∈ (to, LCg.lst (ltRefs us)) :: (cs, LCg.lst (ltRefs ts)) :: (L + 1 + 1 + 1, o') :: (L + 1, ot) :: tl, p.1 ≠ I) :
    LoopEnd h₀ L (fun c : PhC => (to, LCg.lst (ltRefs us)) :: (cs, LCg.lst (ltRefs ts)) :: (L + 1 + 1 + 1, c.o) :: (L + 1, ot) :: tl)
      (fun c z => if z = Str.ofString "tolls" then some (Value.ref to) else if z = Str.ofString "costs" then some (Value.ref cs) else if z = Str.ofString "word" then some (Value.str y ty) else if z = Str.ofString "total" then some (Value.int tot tt) else c.u z) (fun _ => gs)
      (fun _ c => ∃ v0, c.o.data = .cell v0) I oI i s₁ Q .next { s₁ with heap := h, gens := gs, toks := tk } := by
  refine ⟨⟨o9, m9⟩, h, tk, m9, _, rfl, F, ?_, N, fun p hp => .tail _ hp, .head _, ?_, ⟨_, ho9⟩⟩
  · intro z
    (try dsimp only)
    by_cases h1 : z = Str.ofString "tolls"
    · rw [if_pos h1, h1, q1]
    · by_cases h2 : z = Str.ofString "costs"
      · rw [if_neg h1, if_pos h2, h2, q2]
      · by_cases h3 : z = Str.ofString "word"
        · rw [if_neg h1, if_neg h2, if_pos h3, h3, q3]
        · by_cases h4 : z = Str.ofString "total"
          · rw [if_neg h1, if_neg h2, if_neg h3, if_pos h4, h4, q4]
          · rw [if_neg h1, if_neg h2, if_neg h3, if_neg h4]
  · intro p hp
    rcases List.mem_cons.mp hp with rfl | hp
    · exact hne _ (.head _)
    · rcases List.mem_cons.mp hp with rfl | hp
      · exact hne _ (.tail _ (.head _))
      · rcases List.mem_cons.mp hp with rfl | hp
        · exact hne (L + 1 + 1 + 1, o') (.tail _ (.tail _ (.head _)))
        · exact hne p (.tail _ (.tail _ (.tail _ hp)))
theorem phase4 (w : World) (mean : ExcName → Option Value) (mg mb : Str → Option Value) (dp un : Nat) (gd : Option (List Code)) (cd : Value) (L fa : Addr) (o1 oc ot : Obj) (A₀ : Around) (base h₀ : Heap) (s : Shared) (Q : Flow → Shared → Prop)
    (tot : Int) (tt : Tok) (x : Str) (tx : Tok) (y : Str) (ty : Tok) (to cs : Addr) (ts us : List LwT) (u : Str → Option Value)
    (hB : Below A₀ base [] h₀) (hF : Fr h₀ L s.heap (fun z => if z = Str.ofString "tolls" then some (Value.ref to) else if z = Str.ofString "costs" then some (Value.ref cs) else if z = Str.ofString "word" then some (Value.str y ty) else if z = Str.ofString "total" then some (Value.int tot tt) else u z))
    (hX : (hd.heap_39 w.params).In h₀) (hN : News h₀ L s.heap ((to, LCg.lst (ltRefs us)) :: (cs, LCg.lst (ltRefs ts)) :: (L + 1 + 1 + 1, o1) :: (L + 1 + 1, oc) :: (L + 1, ot) :: (ltLed ts ++ ltLed us))) (hT : Top hd.view_39 (looseW hd.view_39 []) mean mg mb h₀)
    (ax : Al x) (hx3 : 3 ≤ x.length) (hx : x.length ≤ 5) (ay : Al y) (hy : y.length = 2) (ho1 : o1.data = .cell none) (hot : ot.data = .cell (some (.str x tx)))
    (htl : ts.length = 2 ^ (x.length - 1)) (hts : LtOk (fun j => (((ruler (ls x) j).length : Int), sumD (ls y) (ruler (ls x) j))) L ts) (hul : us.length = 9) (hus : LtP (TollP (ls y) (ls x)) L us)
    (hto : ∀ p ∈ (cs, LCg.lst (ltRefs ts)) :: (L + 1 + 1 + 1, o1) :: (L + 1 + 1, oc) :: (L + 1, ot) :: (ltLed ts ++ ltLed us), p.1 ≠ to) (hcs : @Ne Nat (L + 1 + 1 + 1) cs)
    (hdp : dp + 20 < recursionLimit) (hun : un + 200 < cLine)
    (ret : ∀ (h' : Heap) (tk' : Nat) (m' : Str → Option Value) , Fr h₀ L h' m' → Q (.ret (.bool true)) { s with heap := h', toks := tk' }) :
    wpAny (model Challenge.rw_ph0059_01.row.prog w) (lawTop w dp un gd L fa cd) (execs ((lawDef w).body.drop 10) (lawEnv w L fa cd)) Q (fun _ _ => False) s := by
  k_fill
  (try dsimp only [lawDef, List.take, List.drop, lawTop, lawEnv, lawCl])
  w_on
  have hto1 : @Ne Nat (L + 1 + 1 + 1) to := hto _ (.tail _ (.head _))
  obtain ⟨tl, htl'⟩ : ∃ tl, tl = ltLed ts ++ ltLed us := ⟨_, rfl⟩
  have htn : ∀ p ∈ tl, p.1 ≠ L + 1 + 1 + 1 := by
    intro p hp
    rw [htl'] at hp
    rcases List.mem_append.mp hp with hp | hp
    · obtain ⟨q, hq, rfl⟩ := List.mem_map.mp hp
      exact Nat.ne_of_gt (hts.2 q hq)
    · obtain ⟨q, hq, rfl⟩ := List.mem_map.mp hp
      exact Nat.ne_of_gt (hus.2 q hq)
  rw [← htl'] at hN
  clear hto
  (repeat' (first | (k_unfold; (try dsimp only)) | ((((fail_if_success (with_reducible first | show wpAny _ _ (exec (Stmt.For _ _ _ _ _) _) _ _ _ | show wpAny _ _ (exec (Stmt.While _ _ _ _) _) _ _ _ | show wpAny _ _ (pyIter _) _ _ _ | show wpAny _ _ (call (Value.ref _) _ _) _ _ _ | show wpAny _ _ (eval (Expr.Subscript _ (Expr.Slice none (some (Expr.BoolOp _ _ _)) none _) _) _) _ _ _ | show wpAny _ _ (exec (Stmt.If _ [Stmt.Assign [Expr.Tuple _ _ _] _ _] _ _) _) _ _ _ | show wpAny _ _ (exec (Stmt.If (Expr.BoolOp _ _ _) [Stmt.Assign [Expr.Name _ _] (Expr.Subscript _ _ _) _] _ _) _) _ _ _)); fail_if_success (with_reducible first | show wpAny _ _ (eval (Expr.ListComp _ _ _ _) _) _ _ _ | show wpAny _ _ (exec (Stmt.Assign _ (Expr.ListComp _ _ _ _) _) _) _ _ _ | show LCg.CompSrc _ _ _ _ _ _ _ _ _ _ _ _ _ _ | show LCg.CompEnd _ _ _ _ _ _ _ _ _ _ _ _ _ _ | show wpAny _ _ (call (Value.builtin "max") _) _ _ _ | show LCp.SrcLP _ _ _ _ _ _ _ _ _ _ _ _ _ _ _))); walk1) | ((((fail_if_success (with_reducible first | show wpAny _ _ (exec (Stmt.For _ _ _ _ _) _) _ _ _ | show wpAny _ _ (exec (Stmt.While _ _ _ _) _) _ _ _ | show wpAny _ _ (pyIter _) _ _ _ | show wpAny _ _ (call (Value.ref _) _ _) _ _ _ | show wpAny _ _ (eval (Expr.Subscript _ (Expr.Slice none (some (Expr.BoolOp _ _ _)) none _) _) _) _ _ _ | show wpAny _ _ (exec (Stmt.If _ [Stmt.Assign [Expr.Tuple _ _ _] _ _] _ _) _) _ _ _ | show wpAny _ _ (exec (Stmt.If (Expr.BoolOp _ _ _) [Stmt.Assign [Expr.Name _ _] (Expr.Subscript _ _ _) _] _ _) _) _ _ _)); fail_if_success (with_reducible first | show wpAny _ _ (eval (Expr.ListComp _ _ _ _) _) _ _ _ | show wpAny _ _ (exec (Stmt.Assign _ (Expr.ListComp _ _ _ _) _) _) _ _ _ | show LCg.CompSrc _ _ _ _ _ _ _ _ _ _ _ _ _ _ | show LCg.CompEnd _ _ _ _ _ _ _ _ _ _ _ _ _ _ | show wpAny _ _ (call (Value.builtin "max") _) _ _ _ | show LCp.SrcLP _ _ _ _ _ _ _ _ _ _ _ _ _ _ _))); dsimp only; walk1) | (leave1; (try dsimp only)) | fail "no step"))
  refine owit_for ?_
  (repeat' (first | (k_unfold; (try dsimp only)) | ((((fail_if_success (with_reducible first | show wpAny _ _ (exec (Stmt.For _ _ _ _ _) _) _ _ _ | show wpAny _ _ (exec (Stmt.While _ _ _ _) _) _ _ _ | show wpAny _ _ (pyIter _) _ _ _ | show wpAny _ _ (call (Value.ref _) _ _) _ _ _ | show wpAny _ _ (eval (Expr.Subscript _ (Expr.Slice none (some (Expr.BoolOp _ _ _)) none _) _) _) _ _ _ | show wpAny _ _ (exec (Stmt.If _ [Stmt.Assign [Expr.Tuple _ _ _] _ _] _ _) _) _ _ _ | show wpAny _ _ (exec (Stmt.If (Expr.BoolOp _ _ _) [Stmt.Assign [Expr.Name _ _] (Expr.Subscript _ _ _) _] _ _) _) _ _ _)); fail_if_success (with_reducible first | show wpAny _ _ (eval (Expr.ListComp _ _ _ _) _) _ _ _ | show wpAny _ _ (exec (Stmt.Assign _ (Expr.ListComp _ _ _ _) _) _) _ _ _ | show LCg.CompSrc _ _ _ _ _ _ _ _ _ _ _ _ _ _ | show LCg.CompEnd _ _ _ _ _ _ _ _ _ _ _ _ _ _ | show wpAny _ _ (call (Value.builtin "max") _) _ _ _ | show LCp.SrcLP _ _ _ _ _ _ _ _ _ _ _ _ _ _ _))); walk1) | ((((fail_if_success (with_reducible first | show wpAny _ _ (exec (Stmt.For _ _ _ _ _) _) _ _ _ | show wpAny _ _ (exec (Stmt.While _ _ _ _) _) _ _ _ | show wpAny _ _ (pyIter _) _ _ _ | show wpAny _ _ (call (Value.ref _) _ _) _ _ _ | show wpAny _ _ (eval (Expr.Subscript _ (Expr.Slice none (some (Expr.BoolOp _ _ _)) none _) _) _) _ _ _ | show wpAny _ _ (exec (Stmt.If _ [Stmt.Assign [Expr.Tuple _ _ _] _ _] _ _) _) _ _ _ | show wpAny _ _ (exec (Stmt.If (Expr.BoolOp _ _ _) [Stmt.Assign [Expr.Name _ _] (Expr.Subscript _ _ _) _] _ _) _) _ _ _)); fail_if_success (with_reducible first | show wpAny _ _ (eval (Expr.ListComp _ _ _ _) _) _ _ _ | show wpAny _ _ (exec (Stmt.Assign _ (Expr.ListComp _ _ _ _) _) _) _ _ _ | show LCg.CompSrc _ _ _ _ _ _ _ _ _ _ _ _ _ _ | show LCg.CompEnd _ _ _ _ _ _ _ _ _ _ _ _ _ _ | show wpAny _ _ (call (Value.builtin "max") _) _ _ _ | show LCp.SrcLP _ _ _ _ _ _ _ _ _ _ _ _ _ _ _))); dsimp only; walk1) | (leave1; (try dsimp only)) | fail "no step"))
  rename Fr _ _ _ _ => F1
  rename News _ _ _ _ => N1
  rename IsRange _ _ _ _ _ _ _ _ => rgX
  (try dsimp only at rgX)
  refine loop_range (σ := PhC) (n := 5) (fun c => (to, LCg.lst (ltRefs us)) :: (cs, LCg.lst (ltRefs ts)) :: (L + 1 + 1 + 1, c.o) :: (L + 1, ot) :: tl)
    (fun c z => if z = Str.ofString "tolls" then some (Value.ref to) else if z = Str.ofString "costs" then some (Value.ref cs) else if z = Str.ofString "word" then some (Value.str y ty) else if z = Str.ofString "total" then some (Value.int tot tt) else c.u z) (fun _ => s.gens)
    (fun i c => ∃ v0, c.o.data = .cell v0) ⟨o1, u⟩ rfl rgX (by decide) (by rfl) (by omega) F1 (fun _ => rfl) (fun p hp => N1 p ?hsub) rfl ⟨_, ho1⟩ ?qturn ?qdone
  case hsub =>
    rcases List.mem_cons.mp hp with rfl | hp
    · exact .head _
    · rcases List.mem_cons.mp hp with rfl | hp
      · exact .tail _ (.head _)
      · rcases List.mem_cons.mp hp with rfl | hp
        · exact .tail _ (.tail _ (.head _))
        · exact .tail _ (.tail _ (.tail _ (.tail _ hp)))
  case qdone =>
    intro c2 h tk hP F3 N3
    (try dsimp only at F3 N3 ⊢)
    (repeat' (first | (k_unfold; (try dsimp only)) | ((((fail_if_success (with_reducible first | show wpAny _ _ (exec (Stmt.For _ _ _ _ _) _) _ _ _ | show wpAny _ _ (exec (Stmt.While _ _ _ _) _) _ _ _ | show wpAny _ _ (pyIter _) _ _ _ | show wpAny _ _ (call (Value.ref _) _ _) _ _ _ | show wpAny _ _ (eval (Expr.Subscript _ (Expr.Slice none (some (Expr.BoolOp _ _ _)) none _) _) _) _ _ _ | show wpAny _ _ (exec (Stmt.If _ [Stmt.Assign [Expr.Tuple _ _ _] _ _] _ _) _) _ _ _ | show wpAny _ _ (exec (Stmt.If (Expr.BoolOp _ _ _) [Stmt.Assign [Expr.Name _ _] (Expr.Subscript _ _ _) _] _ _) _) _ _ _)); fail_if_success (with_reducible first | show wpAny _ _ (eval (Expr.ListComp _ _ _ _) _) _ _ _ | show wpAny _ _ (exec (Stmt.Assign _ (Expr.ListComp _ _ _ _) _) _) _ _ _ | show LCg.CompSrc _ _ _ _ _ _ _ _ _ _ _ _ _ _ | show LCg.CompEnd _ _ _ _ _ _ _ _ _ _ _ _ _ _ | show wpAny _ _ (call (Value.builtin "max") _) _ _ _ | show LCp.SrcLP _ _ _ _ _ _ _ _ _ _ _ _ _ _ _))); walk1) | ((((fail_if_success (with_reducible first | show wpAny _ _ (exec (Stmt.For _ _ _ _ _) _) _ _ _ | show wpAny _ _ (exec (Stmt.While _ _ _ _) _) _ _ _ | show wpAny _ _ (pyIter _) _ _ _ | show wpAny _ _ (call (Value.ref _) _ _) _ _ _ | show wpAny _ _ (eval (Expr.Subscript _ (Expr.Slice none (some (Expr.BoolOp _ _ _)) none _) _) _) _ _ _ | show wpAny _ _ (exec (Stmt.If _ [Stmt.Assign [Expr.Tuple _ _ _] _ _] _ _) _) _ _ _ | show wpAny _ _ (exec (Stmt.If (Expr.BoolOp _ _ _) [Stmt.Assign [Expr.Name _ _] (Expr.Subscript _ _ _) _] _ _) _) _ _ _)); fail_if_success (with_reducible first | show wpAny _ _ (eval (Expr.ListComp _ _ _ _) _) _ _ _ | show wpAny _ _ (exec (Stmt.Assign _ (Expr.ListComp _ _ _ _) _) _) _ _ _ | show LCg.CompSrc _ _ _ _ _ _ _ _ _ _ _ _ _ _ | show LCg.CompEnd _ _ _ _ _ _ _ _ _ _ _ _ _ _ | show wpAny _ _ (call (Value.builtin "max") _) _ _ _ | show LCp.SrcLP _ _ _ _ _ _ _ _ _ _ _ _ _ _ _))); dsimp only; walk1) | (leave1; (try dsimp only)) | fail "no step"))
    exact ret _ _ _ (by assumption)
  case qturn =>
    intro i c2 t h tk I oI hi hP hne F3 N3
    obtain ⟨v0, hp1⟩ := hP
    have hI0 : @Ne Nat I to := fun z => hne _ (.head _) z.symm
    have hI1 : @Ne Nat I cs := fun z => hne _ (.tail _ (.head _)) z.symm
    have hI2 : @Ne Nat I (L + 1 + 1 + 1) := fun z => hne _ (.tail _ (.tail _ (.head _))) z.symm
    have hI3 : @Ne Nat I (L + 1) := fun z => hne _ (.tail _ (.tail _ (.tail _ (.head _)))) z.symm
    clear F1 N1 rgX ret
    (try dsimp only at F3 N3 ⊢)
    simp only [Int.zero_add]
    have hlm : (Txt.mul y (i : Int)).length = 2 * i := by rw [← ls_len, ls_mul hy hi, rep_len, ls_len, hy]
    have hAm : Al (Txt.mul y (i : Int)) := fun c hc => by rw [ls_mul hy hi] at hc; exact ay c (rep_mem i hc)
    have hDm : D (ls (Txt.mul y (i : Int))) (ls x) = f (ls y) (ls x) i := by rw [ls_mul hy hi]; rfl
    have hf26 : f (ls y) (ls x) i ≤ 26 := by
      have := D_le_len (ls (Txt.mul y (i : Int))) (ls x)
      rw [hDm, ls_len, ls_len, hlm] at this
      omega
    have hf3 := fmod3 (tot + (i : Int))
    (repeat' (first | (k_unfold; (try dsimp only)) | ((((fail_if_success (with_reducible first | show wpAny _ _ (exec (Stmt.For _ _ _ _ _) _) _ _ _ | show wpAny _ _ (exec (Stmt.While _ _ _ _) _) _ _ _ | show wpAny _ _ (pyIter _) _ _ _ | show wpAny _ _ (call (Value.ref _) _ _) _ _ _ | show wpAny _ _ (eval (Expr.Subscript _ (Expr.Slice none (some (Expr.BoolOp _ _ _)) none _) _) _) _ _ _ | show wpAny _ _ (exec (Stmt.If _ [Stmt.Assign [Expr.Tuple _ _ _] _ _] _ _) _) _ _ _ | show wpAny _ _ (exec (Stmt.If (Expr.BoolOp _ _ _) [Stmt.Assign [Expr.Name _ _] (Expr.Subscript _ _ _) _] _ _) _) _ _ _)); fail_if_success (with_reducible first | show wpAny _ _ (eval (Expr.ListComp _ _ _ _) _) _ _ _ | show wpAny _ _ (exec (Stmt.Assign _ (Expr.ListComp _ _ _ _) _) _) _ _ _ | show LCg.CompSrc _ _ _ _ _ _ _ _ _ _ _ _ _ _ | show LCg.CompEnd _ _ _ _ _ _ _ _ _ _ _ _ _ _ | show wpAny _ _ (call (Value.builtin "max") _) _ _ _ | show LCp.SrcLP _ _ _ _ _ _ _ _ _ _ _ _ _ _ _))); walk1) | ((((fail_if_success (with_reducible first | show wpAny _ _ (exec (Stmt.For _ _ _ _ _) _) _ _ _ | show wpAny _ _ (exec (Stmt.While _ _ _ _) _) _ _ _ | show wpAny _ _ (pyIter _) _ _ _ | show wpAny _ _ (call (Value.ref _) _ _) _ _ _ | show wpAny _ _ (eval (Expr.Subscript _ (Expr.Slice none (some (Expr.BoolOp _ _ _)) none _) _) _) _ _ _ | show wpAny _ _ (exec (Stmt.If _ [Stmt.Assign [Expr.Tuple _ _ _] _ _] _ _) _) _ _ _ | show wpAny _ _ (exec (Stmt.If (Expr.BoolOp _ _ _) [Stmt.Assign [Expr.Name _ _] (Expr.Subscript _ _ _) _] _ _) _) _ _ _)); fail_if_success (with_reducible first | show wpAny _ _ (eval (Expr.ListComp _ _ _ _) _) _ _ _ | show wpAny _ _ (exec (Stmt.Assign _ (Expr.ListComp _ _ _ _) _) _) _ _ _ | show LCg.CompSrc _ _ _ _ _ _ _ _ _ _ _ _ _ _ | show LCg.CompEnd _ _ _ _ _ _ _ _ _ _ _ _ _ _ | show wpAny _ _ (call (Value.builtin "max") _) _ _ _ | show LCp.SrcLP _ _ _ _ _ _ _ _ _ _ _ _ _ _ _))); dsimp only; walk1) | (leave1; (try dsimp only)) | fail "no step"))
    · have hi1 : 1 ≤ i := by have : 0 < (i : Int) := by assumption
                             omega
      rename Fr _ _ _ _ => F4
      rename News _ _ _ _ => N4
      obtain ⟨o9, ho9, N5⟩ : ∃ o9 : Obj, o9.data = .cell (some (.int (i : Int) t)) ∧ News h₀ L _ ((I, oI) :: (to, LCg.lst (ltRefs us)) :: (cs, LCg.lst (ltRefs ts)) :: (L + 1 + 1 + 1, o9) :: (L + 1, ot) :: tl) := ⟨_, by assumption, N4⟩
      clear N4
      have htsl : (ltRefs ts).length = ts.length := List.length_map _
      have husl : (ltRefs us).length = us.length := List.length_map _
      have hp16 : 2 ^ (x.length - 1) ≤ 16 := Nat.le_trans (Nat.pow_le_pow_right (by decide) (show x.length - 1 ≤ 4 by exact om78 hx3 hx)) (by decide)
      k_dflt (refine listcomp_PT F4 (by with_unfolding_all rfl) (by decide) (by rfl) (by decide) (by rfl) (by rfl) (by decide) ?_)
      (repeat' (first | (k_unfold; (try dsimp only)) | ((((fail_if_success (with_reducible first | show wpAny _ _ (exec (Stmt.For _ _ _ _ _) _) _ _ _ | show wpAny _ _ (exec (Stmt.While _ _ _ _) _) _ _ _ | show wpAny _ _ (pyIter _) _ _ _ | show wpAny _ _ (call (Value.ref _) _ _) _ _ _ | show wpAny _ _ (eval (Expr.Subscript _ (Expr.Slice none (some (Expr.BoolOp _ _ _)) none _) _) _) _ _ _ | show wpAny _ _ (exec (Stmt.If _ [Stmt.Assign [Expr.Tuple _ _ _] _ _] _ _) _) _ _ _ | show wpAny _ _ (exec (Stmt.If (Expr.BoolOp _ _ _) [Stmt.Assign [Expr.Name _ _] (Expr.Subscript _ _ _) _] _ _) _) _ _ _)); fail_if_success (with_reducible first | show wpAny _ _ (eval (Expr.ListComp _ _ _ _) _) _ _ _ | show wpAny _ _ (exec (Stmt.Assign _ (Expr.ListComp _ _ _ _) _) _) _ _ _ | show LCg.CompSrc _ _ _ _ _ _ _ _ _ _ _ _ _ _ | show LCg.CompEnd _ _ _ _ _ _ _ _ _ _ _ _ _ _ | show wpAny _ _ (call (Value.builtin "max") _) _ _ _ | show LCp.SrcLP _ _ _ _ _ _ _ _ _ _ _ _ _ _ _))); walk1) | ((((fail_if_success (with_reducible first | show wpAny _ _ (exec (Stmt.For _ _ _ _ _) _) _ _ _ | show wpAny _ _ (exec (Stmt.While _ _ _ _) _) _ _ _ | show wpAny _ _ (pyIter _) _ _ _ | show wpAny _ _ (call (Value.ref _) _ _) _ _ _ | show wpAny _ _ (eval (Expr.Subscript _ (Expr.Slice none (some (Expr.BoolOp _ _ _)) none _) _) _) _ _ _ | show wpAny _ _ (exec (Stmt.If _ [Stmt.Assign [Expr.Tuple _ _ _] _ _] _ _) _) _ _ _ | show wpAny _ _ (exec (Stmt.If (Expr.BoolOp _ _ _) [Stmt.Assign [Expr.Name _ _] (Expr.Subscript _ _ _) _] _ _) _) _ _ _)); fail_if_success (with_reducible first | show wpAny _ _ (eval (Expr.ListComp _ _ _ _) _) _ _ _ | show wpAny _ _ (exec (Stmt.Assign _ (Expr.ListComp _ _ _ _) _) _) _ _ _ | show LCg.CompSrc _ _ _ _ _ _ _ _ _ _ _ _ _ _ | show LCg.CompEnd _ _ _ _ _ _ _ _ _ _ _ _ _ _ | show wpAny _ _ (call (Value.builtin "max") _) _ _ _ | show LCp.SrcLP _ _ _ _ _ _ _ _ _ _ _ _ _ _ _))); dsimp only; walk1) | (leave1; (try dsimp only)) | fail "no step"))
      rename Fr _ _ _ _ => F5
      rename News _ _ _ _ => N6
      refine ⟨cs, (ltRefs ts).toArray, _, _, fun j ys => IntsAre ys (cheapL (ls y) (ls x) i j), rfl, rfl, F5, N6, .tail _ (.tail _ (.head _)), (by rw [sizeLine_eq, List.size_toArray]; omega), .nil, fun g => ?cstep, fun g ys hI => ?cfin⟩
      case cstep =>
        clear F5 N6
        intro j ys hj hInv
        have hj' : j < ts.length := by rw [List.size_toArray, htsl] at hj; exact hj
        obtain ⟨t4, ht4⟩ : ∃ t4, ts[j]? = some t4 := ⟨ts[j], List.getElem?_eq_getElem hj'⟩
        obtain ⟨hn4, hc4⟩ := hts.1 j t4 ht4
        (try dsimp only at hn4 hc4)
        refine ⟨t4.a, pairObj t4, .int t4.n t4.tn, .int t4.c t4.tc, _, ?_, .tail _ (.tail _ (.tail _ (.tail _ (.tail _ ?_)))), rfl, rfl, ?_⟩
        · simp [ltRefs, ht4]
        · rw [htl']
          exact List.mem_append_left _ (List.mem_map_of_mem (List.mem_of_getElem? ht4))
        intro I5 oI5 C5 oC5 D5 m5 h5 tk5 E5 hC5 hx5 hx6 F6 N7 off5 hne5
        rw [hn4] at hx5
        rw [hc4] at hx6
        (try dsimp only at F6 N7 ⊢)
        (repeat' (first | (k_unfold; (try dsimp only)) | ((((fail_if_success (with_reducible first | show wpAny _ _ (exec (Stmt.For _ _ _ _ _) _) _ _ _ | show wpAny _ _ (exec (Stmt.While _ _ _ _) _) _ _ _ | show wpAny _ _ (pyIter _) _ _ _ | show wpAny _ _ (call (Value.ref _) _ _) _ _ _ | show wpAny _ _ (eval (Expr.Subscript _ (Expr.Slice none (some (Expr.BoolOp _ _ _)) none _) _) _) _ _ _ | show wpAny _ _ (exec (Stmt.If _ [Stmt.Assign [Expr.Tuple _ _ _] _ _] _ _) _) _ _ _ | show wpAny _ _ (exec (Stmt.If (Expr.BoolOp _ _ _) [Stmt.Assign [Expr.Name _ _] (Expr.Subscript _ _ _) _] _ _) _) _ _ _)); fail_if_success (with_reducible first | show wpAny _ _ (eval (Expr.ListComp _ _ _ _) _) _ _ _ | show wpAny _ _ (exec (Stmt.Assign _ (Expr.ListComp _ _ _ _) _) _) _ _ _ | show LCg.CompSrc _ _ _ _ _ _ _ _ _ _ _ _ _ _ | show LCg.CompEnd _ _ _ _ _ _ _ _ _ _ _ _ _ _ | show wpAny _ _ (call (Value.builtin "max") _) _ _ _ | show LCp.SrcLP _ _ _ _ _ _ _ _ _ _ _ _ _ _ _))); walk1) | ((((fail_if_success (with_reducible first | show wpAny _ _ (exec (Stmt.For _ _ _ _ _) _) _ _ _ | show wpAny _ _ (exec (Stmt.While _ _ _ _) _) _ _ _ | show wpAny _ _ (pyIter _) _ _ _ | show wpAny _ _ (call (Value.ref _) _ _) _ _ _ | show wpAny _ _ (eval (Expr.Subscript _ (Expr.Slice none (some (Expr.BoolOp _ _ _)) none _) _) _) _ _ _ | show wpAny _ _ (exec (Stmt.If _ [Stmt.Assign [Expr.Tuple _ _ _] _ _] _ _) _) _ _ _ | show wpAny _ _ (exec (Stmt.If (Expr.BoolOp _ _ _) [Stmt.Assign [Expr.Name _ _] (Expr.Subscript _ _ _) _] _ _) _) _ _ _)); fail_if_success (with_reducible first | show wpAny _ _ (eval (Expr.ListComp _ _ _ _) _) _ _ _ | show wpAny _ _ (exec (Stmt.Assign _ (Expr.ListComp _ _ _ _) _) _) _ _ _ | show LCg.CompSrc _ _ _ _ _ _ _ _ _ _ _ _ _ _ | show LCg.CompEnd _ _ _ _ _ _ _ _ _ _ _ _ _ _ | show wpAny _ _ (call (Value.builtin "max") _) _ _ _ | show LCp.SrcLP _ _ _ _ _ _ _ _ _ _ _ _ _ _ _))); dsimp only; walk1) | (leave1; (try dsimp only)) | fail "no step"))
        · rename Fr _ _ _ _ => F8
          rename News _ _ _ _ => N8
          refine ⟨_, _, _, rfl, F8, N8, off5, True.intro, rfl, ?_⟩
          rw [cheapL_in (by assumption)]
          exact IntsAre.append hInv (.cons _ _ .nil)
        · rename Fr _ _ _ _ => F8
          rename News _ _ _ _ => N8
          refine ⟨_, _, _, rfl, F8, N8, off5, True.intro, rfl, ?_⟩
          rw [cheapL_out (by assumption)]
          exact hInv
      case cfin =>
        have hys : IntsAre ys (cheapL (ls y) (ls x) i (2 ^ ((ls x).length - 1))) := by
          have : (ltRefs ts).toArray.size = 2 ^ ((ls x).length - 1) := by rw [List.size_toArray, htsl, htl, ls_len]
          rw [← this]; exact hI
        clear hI F5 N6
        unfold LCg.FinE
        intro D5 h5 tk5 F6 N7 off5
        clear off5
        (repeat' (first | (k_unfold; (try dsimp only)) | ((((fail_if_success (with_reducible first | show wpAny _ _ (exec (Stmt.For _ _ _ _ _) _) _ _ _ | show wpAny _ _ (exec (Stmt.While _ _ _ _) _) _ _ _ | show wpAny _ _ (pyIter _) _ _ _ | show wpAny _ _ (call (Value.ref _) _ _) _ _ _ | show wpAny _ _ (eval (Expr.Subscript _ (Expr.Slice none (some (Expr.BoolOp _ _ _)) none _) _) _) _ _ _ | show wpAny _ _ (exec (Stmt.If _ [Stmt.Assign [Expr.Tuple _ _ _] _ _] _ _) _) _ _ _ | show wpAny _ _ (exec (Stmt.If (Expr.BoolOp _ _ _) [Stmt.Assign [Expr.Name _ _] (Expr.Subscript _ _ _) _] _ _) _) _ _ _)); fail_if_success (with_reducible first | show wpAny _ _ (eval (Expr.ListComp _ _ _ _) _) _ _ _ | show wpAny _ _ (exec (Stmt.Assign _ (Expr.ListComp _ _ _ _) _) _) _ _ _ | show LCg.CompSrc _ _ _ _ _ _ _ _ _ _ _ _ _ _ | show LCg.CompEnd _ _ _ _ _ _ _ _ _ _ _ _ _ _ | show wpAny _ _ (call (Value.builtin "max") _) _ _ _ | show LCp.SrcLP _ _ _ _ _ _ _ _ _ _ _ _ _ _ _))); walk1) | ((((fail_if_success (with_reducible first | show wpAny _ _ (exec (Stmt.For _ _ _ _ _) _) _ _ _ | show wpAny _ _ (exec (Stmt.While _ _ _ _) _) _ _ _ | show wpAny _ _ (pyIter _) _ _ _ | show wpAny _ _ (call (Value.ref _) _ _) _ _ _ | show wpAny _ _ (eval (Expr.Subscript _ (Expr.Slice none (some (Expr.BoolOp _ _ _)) none _) _) _) _ _ _ | show wpAny _ _ (exec (Stmt.If _ [Stmt.Assign [Expr.Tuple _ _ _] _ _] _ _) _) _ _ _ | show wpAny _ _ (exec (Stmt.If (Expr.BoolOp _ _ _) [Stmt.Assign [Expr.Name _ _] (Expr.Subscript _ _ _) _] _ _) _) _ _ _)); fail_if_success (with_reducible first | show wpAny _ _ (eval (Expr.ListComp _ _ _ _) _) _ _ _ | show wpAny _ _ (exec (Stmt.Assign _ (Expr.ListComp _ _ _ _) _) _) _ _ _ | show LCg.CompSrc _ _ _ _ _ _ _ _ _ _ _ _ _ _ | show LCg.CompEnd _ _ _ _ _ _ _ _ _ _ _ _ _ _ | show wpAny _ _ (call (Value.builtin "max") _) _ _ _ | show LCp.SrcLP _ _ _ _ _ _ _ _ _ _ _ _ _ _ _))); dsimp only; walk1) | (leave1; (try dsimp only)) | fail "no step"))
        have hT1 : 1 ≤ (ls x).length := by rw [ls_len]; exact om79 hx3 hx
        have hW2 : (ls y).length = 2 := by rw [ls_len]; exact hy
        refine min_list_N rfl F6 N7 (News.isList N7 (.head _)) hys (cheapL_pos hT1 hi1) ?_
        intro h6 M t6 tk6 F7 N8 hM1 hM2
        have hM := cheapL_is hW2 hT1 hi1 hM1 hM2
        clear hM1 hM2
        have N9 : News h₀ L h6 ((I, oI) :: (to, LCg.lst (ltRefs us)) :: (cs, LCg.lst (ltRefs ts)) :: (L + 1 + 1 + 1, o9) :: (L + 1, ot) :: tl) := fun p hp => N8 p (.tail _ hp)
        clear N8 F6 N7
        (repeat' (first | (k_unfold; (try dsimp only)) | ((((fail_if_success (with_reducible first | show wpAny _ _ (exec (Stmt.For _ _ _ _ _) _) _ _ _ | show wpAny _ _ (exec (Stmt.While _ _ _ _) _) _ _ _ | show wpAny _ _ (pyIter _) _ _ _ | show wpAny _ _ (call (Value.ref _) _ _) _ _ _ | show wpAny _ _ (eval (Expr.Subscript _ (Expr.Slice none (some (Expr.BoolOp _ _ _)) none _) _) _) _ _ _ | show wpAny _ _ (exec (Stmt.If _ [Stmt.Assign [Expr.Tuple _ _ _] _ _] _ _) _) _ _ _ | show wpAny _ _ (exec (Stmt.If (Expr.BoolOp _ _ _) [Stmt.Assign [Expr.Name _ _] (Expr.Subscript _ _ _) _] _ _) _) _ _ _)); fail_if_success (with_reducible first | show wpAny _ _ (eval (Expr.ListComp _ _ _ _) _) _ _ _ | show wpAny _ _ (exec (Stmt.Assign _ (Expr.ListComp _ _ _ _) _) _) _ _ _ | show LCg.CompSrc _ _ _ _ _ _ _ _ _ _ _ _ _ _ | show LCg.CompEnd _ _ _ _ _ _ _ _ _ _ _ _ _ _ | show wpAny _ _ (call (Value.builtin "max") _) _ _ _ | show LCp.SrcLP _ _ _ _ _ _ _ _ _ _ _ _ _ _ _))); walk1) | ((((fail_if_success (with_reducible first | show wpAny _ _ (exec (Stmt.For _ _ _ _ _) _) _ _ _ | show wpAny _ _ (exec (Stmt.While _ _ _ _) _) _ _ _ | show wpAny _ _ (pyIter _) _ _ _ | show wpAny _ _ (call (Value.ref _) _ _) _ _ _ | show wpAny _ _ (eval (Expr.Subscript _ (Expr.Slice none (some (Expr.BoolOp _ _ _)) none _) _) _) _ _ _ | show wpAny _ _ (exec (Stmt.If _ [Stmt.Assign [Expr.Tuple _ _ _] _ _] _ _) _) _ _ _ | show wpAny _ _ (exec (Stmt.If (Expr.BoolOp _ _ _) [Stmt.Assign [Expr.Name _ _] (Expr.Subscript _ _ _) _] _ _) _) _ _ _)); fail_if_success (with_reducible first | show wpAny _ _ (eval (Expr.ListComp _ _ _ _) _) _ _ _ | show wpAny _ _ (exec (Stmt.Assign _ (Expr.ListComp _ _ _ _) _) _) _ _ _ | show LCg.CompSrc _ _ _ _ _ _ _ _ _ _ _ _ _ _ | show LCg.CompEnd _ _ _ _ _ _ _ _ _ _ _ _ _ _ | show wpAny _ _ (call (Value.builtin "max") _) _ _ _ | show LCp.SrcLP _ _ _ _ _ _ _ _ _ _ _ _ _ _ _))); dsimp only; walk1) | (leave1; (try dsimp only)) | fail "no step"))
        k_dflt (refine LCp.ListComp_P (F₀ := by k_asm) (by with_unfolding_all rfl) (by decide) (by rfl) (by decide) (by rfl) (by rfl) (by decide) ?_)
        (repeat' (first | (k_unfold; (try dsimp only)) | ((((fail_if_success (with_reducible first | show wpAny _ _ (exec (Stmt.For _ _ _ _ _) _) _ _ _ | show wpAny _ _ (exec (Stmt.While _ _ _ _) _) _ _ _ | show wpAny _ _ (pyIter _) _ _ _ | show wpAny _ _ (call (Value.ref _) _ _) _ _ _ | show wpAny _ _ (eval (Expr.Subscript _ (Expr.Slice none (some (Expr.BoolOp _ _ _)) none _) _) _) _ _ _ | show wpAny _ _ (exec (Stmt.If _ [Stmt.Assign [Expr.Tuple _ _ _] _ _] _ _) _) _ _ _ | show wpAny _ _ (exec (Stmt.If (Expr.BoolOp _ _ _) [Stmt.Assign [Expr.Name _ _] (Expr.Subscript _ _ _) _] _ _) _) _ _ _)); fail_if_success (with_reducible first | show wpAny _ _ (eval (Expr.ListComp _ _ _ _) _) _ _ _ | show wpAny _ _ (exec (Stmt.Assign _ (Expr.ListComp _ _ _ _) _) _) _ _ _ | show LCg.CompSrc _ _ _ _ _ _ _ _ _ _ _ _ _ _ | show LCg.CompEnd _ _ _ _ _ _ _ _ _ _ _ _ _ _ | show wpAny _ _ (call (Value.builtin "max") _) _ _ _ | show LCp.SrcLP _ _ _ _ _ _ _ _ _ _ _ _ _ _ _))); walk1) | ((((fail_if_success (with_reducible first | show wpAny _ _ (exec (Stmt.For _ _ _ _ _) _) _ _ _ | show wpAny _ _ (exec (Stmt.While _ _ _ _) _) _ _ _ | show wpAny _ _ (pyIter _) _ _ _ | show wpAny _ _ (call (Value.ref _) _ _) _ _ _ | show wpAny _ _ (eval (Expr.Subscript _ (Expr.Slice none (some (Expr.BoolOp _ _ _)) none _) _) _) _ _ _ | show wpAny _ _ (exec (Stmt.If _ [Stmt.Assign [Expr.Tuple _ _ _] _ _] _ _) _) _ _ _ | show wpAny _ _ (exec (Stmt.If (Expr.BoolOp _ _ _) [Stmt.Assign [Expr.Name _ _] (Expr.Subscript _ _ _) _] _ _) _) _ _ _)); fail_if_success (with_reducible first | show wpAny _ _ (eval (Expr.ListComp _ _ _ _) _) _ _ _ | show wpAny _ _ (exec (Stmt.Assign _ (Expr.ListComp _ _ _ _) _) _) _ _ _ | show LCg.CompSrc _ _ _ _ _ _ _ _ _ _ _ _ _ _ | show LCg.CompEnd _ _ _ _ _ _ _ _ _ _ _ _ _ _ | show wpAny _ _ (call (Value.builtin "max") _) _ _ _ | show LCp.SrcLP _ _ _ _ _ _ _ _ _ _ _ _ _ _ _))); dsimp only; walk1) | (leave1; (try dsimp only)) | fail "no step"))
        rename Fr _ _ _ _ => F8
        rename News _ _ _ _ => N10
        refine LCp.SrcLP.ledger (by rfl) F8 N10 (.tail _ (.head _)) (by rw [sizeLine_eq, List.size_toArray]; omega) ?_
        intro g2
        refine comp_invP (fun j zs nw => nw = (I, oI) :: (to, LCg.lst (ltRefs us)) :: (cs, LCg.lst (ltRefs ts)) :: (L + 1 + 1 + 1, o9) :: (L + 1, ot) :: tl ∧ IntsAre zs ((us.take j).map fun t => t.n * (i : Int) + t.c)) ⟨rfl, .nil⟩ ?dfin ?dstep
        case dstep =>
          intro j zs nw v hj hInv hP
          obtain ⟨rfl, hzs⟩ := hInv
          have hP5 : (ltRefs us)[j]? = some v := by simpa using hP
          obtain ⟨t5, ht5, rfl⟩ := mem_map_some hP5
          obtain ⟨hn5, _⟩ := hus.1 j t5 ht5
          have hj9 : j < 9 := by rw [List.size_toArray, husl, hul] at hj; exact hj
          have hb1 : -4 ≤ t5.n := by omega
          have hb2 : t5.n ≤ 4 := by omega
          refine ⟨t5.a, pairObj t5, .int t5.n t5.tn, .int t5.c t5.tc, _, rfl, .tail _ (.tail _ (.tail _ (.tail _ (.tail _ ?_)))), rfl, rfl, ?_⟩
          · rw [htl']
            exact List.mem_append_right _ (List.mem_map_of_mem (List.mem_of_getElem? ht5))
          intro I5 oI5 C5 oC5 D6 m5 h7 tk7 E5 hC5 hx5 hx6 F9 N11 off6 hne5
          clear F8 N10
          (try dsimp only at F9 N11 ⊢)
          (repeat' (first | (k_unfold; (try dsimp only)) | ((((fail_if_success (with_reducible first | show wpAny _ _ (exec (Stmt.For _ _ _ _ _) _) _ _ _ | show wpAny _ _ (exec (Stmt.While _ _ _ _) _) _ _ _ | show wpAny _ _ (pyIter _) _ _ _ | show wpAny _ _ (call (Value.ref _) _ _) _ _ _ | show wpAny _ _ (eval (Expr.Subscript _ (Expr.Slice none (some (Expr.BoolOp _ _ _)) none _) _) _) _ _ _ | show wpAny _ _ (exec (Stmt.If _ [Stmt.Assign [Expr.Tuple _ _ _] _ _] _ _) _) _ _ _ | show wpAny _ _ (exec (Stmt.If (Expr.BoolOp _ _ _) [Stmt.Assign [Expr.Name _ _] (Expr.Subscript _ _ _) _] _ _) _) _ _ _)); fail_if_success (with_reducible first | show wpAny _ _ (eval (Expr.ListComp _ _ _ _) _) _ _ _ | show wpAny _ _ (exec (Stmt.Assign _ (Expr.ListComp _ _ _ _) _) _) _ _ _ | show LCg.CompSrc _ _ _ _ _ _ _ _ _ _ _ _ _ _ | show LCg.CompEnd _ _ _ _ _ _ _ _ _ _ _ _ _ _ | show wpAny _ _ (call (Value.builtin "max") _) _ _ _ | show LCp.SrcLP _ _ _ _ _ _ _ _ _ _ _ _ _ _ _))); walk1) | ((((fail_if_success (with_reducible first | show wpAny _ _ (exec (Stmt.For _ _ _ _ _) _) _ _ _ | show wpAny _ _ (exec (Stmt.While _ _ _ _) _) _ _ _ | show wpAny _ _ (pyIter _) _ _ _ | show wpAny _ _ (call (Value.ref _) _ _) _ _ _ | show wpAny _ _ (eval (Expr.Subscript _ (Expr.Slice none (some (Expr.BoolOp _ _ _)) none _) _) _) _ _ _ | show wpAny _ _ (exec (Stmt.If _ [Stmt.Assign [Expr.Tuple _ _ _] _ _] _ _) _) _ _ _ | show wpAny _ _ (exec (Stmt.If (Expr.BoolOp _ _ _) [Stmt.Assign [Expr.Name _ _] (Expr.Subscript _ _ _) _] _ _) _) _ _ _)); fail_if_success (with_reducible first | show wpAny _ _ (eval (Expr.ListComp _ _ _ _) _) _ _ _ | show wpAny _ _ (exec (Stmt.Assign _ (Expr.ListComp _ _ _ _) _) _) _ _ _ | show LCg.CompSrc _ _ _ _ _ _ _ _ _ _ _ _ _ _ | show LCg.CompEnd _ _ _ _ _ _ _ _ _ _ _ _ _ _ | show wpAny _ _ (call (Value.builtin "max") _) _ _ _ | show LCp.SrcLP _ _ _ _ _ _ _ _ _ _ _ _ _ _ _))); dsimp only; walk1) | (leave1; (try dsimp only)) | fail "no step"))
          rename Fr _ _ _ _ => F10
          rename News _ _ _ _ => N12
          refine ⟨_, _, _, rfl, F10, N12, off6, .inr ⟨_, .tail _ (.head _), rfl, _, rfl⟩, rfl, ?_⟩
          rw [List.take_add_one, ht5, List.map_append]
          exact IntsAre.append hzs (.cons _ _ .nil)
        case dfin =>
          intro zs nw hInv
          obtain ⟨rfl, hzs⟩ := hInv
          rw [List.size_toArray, husl, List.take_length] at hzs
          unfold LCg.FinE
          intro D6 h7 tk7 F9 N11 off6
          clear off6 F8 N10
          (repeat' (first | (k_unfold; (try dsimp only)) | ((((fail_if_success (with_reducible first | show wpAny _ _ (exec (Stmt.For _ _ _ _ _) _) _ _ _ | show wpAny _ _ (exec (Stmt.While _ _ _ _) _) _ _ _ | show wpAny _ _ (pyIter _) _ _ _ | show wpAny _ _ (call (Value.ref _) _ _) _ _ _ | show wpAny _ _ (eval (Expr.Subscript _ (Expr.Slice none (some (Expr.BoolOp _ _ _)) none _) _) _) _ _ _ | show wpAny _ _ (exec (Stmt.If _ [Stmt.Assign [Expr.Tuple _ _ _] _ _] _ _) _) _ _ _ | show wpAny _ _ (exec (Stmt.If (Expr.BoolOp _ _ _) [Stmt.Assign [Expr.Name _ _] (Expr.Subscript _ _ _) _] _ _) _) _ _ _)); fail_if_success (with_reducible first | show wpAny _ _ (eval (Expr.ListComp _ _ _ _) _) _ _ _ | show wpAny _ _ (exec (Stmt.Assign _ (Expr.ListComp _ _ _ _) _) _) _ _ _ | show LCg.CompSrc _ _ _ _ _ _ _ _ _ _ _ _ _ _ | show LCg.CompEnd _ _ _ _ _ _ _ _ _ _ _ _ _ _ | show wpAny _ _ (call (Value.builtin "max") _) _ _ _ | show LCp.SrcLP _ _ _ _ _ _ _ _ _ _ _ _ _ _ _))); walk1) | ((((fail_if_success (with_reducible first | show wpAny _ _ (exec (Stmt.For _ _ _ _ _) _) _ _ _ | show wpAny _ _ (exec (Stmt.While _ _ _ _) _) _ _ _ | show wpAny _ _ (pyIter _) _ _ _ | show wpAny _ _ (call (Value.ref _) _ _) _ _ _ | show wpAny _ _ (eval (Expr.Subscript _ (Expr.Slice none (some (Expr.BoolOp _ _ _)) none _) _) _) _ _ _ | show wpAny _ _ (exec (Stmt.If _ [Stmt.Assign [Expr.Tuple _ _ _] _ _] _ _) _) _ _ _ | show wpAny _ _ (exec (Stmt.If (Expr.BoolOp _ _ _) [Stmt.Assign [Expr.Name _ _] (Expr.Subscript _ _ _) _] _ _) _) _ _ _)); fail_if_success (with_reducible first | show wpAny _ _ (eval (Expr.ListComp _ _ _ _) _) _ _ _ | show wpAny _ _ (exec (Stmt.Assign _ (Expr.ListComp _ _ _ _) _) _) _ _ _ | show LCg.CompSrc _ _ _ _ _ _ _ _ _ _ _ _ _ _ | show LCg.CompEnd _ _ _ _ _ _ _ _ _ _ _ _ _ _ | show wpAny _ _ (call (Value.builtin "max") _) _ _ _ | show LCp.SrcLP _ _ _ _ _ _ _ _ _ _ _ _ _ _ _))); dsimp only; walk1) | (leave1; (try dsimp only)) | fail "no step"))
          refine max_list_N rfl F9 N11 (News.isList N11 (.head _)) hzs (by rw [List.length_map, hul]; decide) ?_
          intro h8 M2 t8 tk8 F11 N12 hM3 hM4
          have hM5 := dear_is hW2 hul hus hi1 hM3 hM4
          clear hM3 hM4 F9 N11
          subst hM
          subst hM5
          (repeat' (first | (k_unfold; (try dsimp only)) | ((((fail_if_success (with_reducible first | show wpAny _ _ (exec (Stmt.For _ _ _ _ _) _) _ _ _ | show wpAny _ _ (exec (Stmt.While _ _ _ _) _) _ _ _ | show wpAny _ _ (pyIter _) _ _ _ | show wpAny _ _ (call (Value.ref _) _ _) _ _ _ | show wpAny _ _ (eval (Expr.Subscript _ (Expr.Slice none (some (Expr.BoolOp _ _ _)) none _) _) _) _ _ _ | show wpAny _ _ (exec (Stmt.If _ [Stmt.Assign [Expr.Tuple _ _ _] _ _] _ _) _) _ _ _ | show wpAny _ _ (exec (Stmt.If (Expr.BoolOp _ _ _) [Stmt.Assign [Expr.Name _ _] (Expr.Subscript _ _ _) _] _ _) _) _ _ _)); fail_if_success (with_reducible first | show wpAny _ _ (eval (Expr.ListComp _ _ _ _) _) _ _ _ | show wpAny _ _ (exec (Stmt.Assign _ (Expr.ListComp _ _ _ _) _) _) _ _ _ | show LCg.CompSrc _ _ _ _ _ _ _ _ _ _ _ _ _ _ | show LCg.CompEnd _ _ _ _ _ _ _ _ _ _ _ _ _ _ | show wpAny _ _ (call (Value.builtin "max") _) _ _ _ | show LCp.SrcLP _ _ _ _ _ _ _ _ _ _ _ _ _ _ _))); walk1) | ((((fail_if_success (with_reducible first | show wpAny _ _ (exec (Stmt.For _ _ _ _ _) _) _ _ _ | show wpAny _ _ (exec (Stmt.While _ _ _ _) _) _ _ _ | show wpAny _ _ (pyIter _) _ _ _ | show wpAny _ _ (call (Value.ref _) _ _) _ _ _ | show wpAny _ _ (eval (Expr.Subscript _ (Expr.Slice none (some (Expr.BoolOp _ _ _)) none _) _) _) _ _ _ | show wpAny _ _ (exec (Stmt.If _ [Stmt.Assign [Expr.Tuple _ _ _] _ _] _ _) _) _ _ _ | show wpAny _ _ (exec (Stmt.If (Expr.BoolOp _ _ _) [Stmt.Assign [Expr.Name _ _] (Expr.Subscript _ _ _) _] _ _) _) _ _ _)); fail_if_success (with_reducible first | show wpAny _ _ (eval (Expr.ListComp _ _ _ _) _) _ _ _ | show wpAny _ _ (exec (Stmt.Assign _ (Expr.ListComp _ _ _ _) _) _) _ _ _ | show LCg.CompSrc _ _ _ _ _ _ _ _ _ _ _ _ _ _ | show LCg.CompEnd _ _ _ _ _ _ _ _ _ _ _ _ _ _ | show wpAny _ _ (call (Value.builtin "max") _) _ _ _ | show LCp.SrcLP _ _ _ _ _ _ _ _ _ _ _ _ _ _ _))); dsimp only; walk1) | (leave1; (try dsimp only)) | fail "no step"))
          have H : ∀ ta tb, SpV w mean mg mb 28 2 24 [.str (Txt.mul y (i : Int)) ta, .str x tx, .int (f (ls y) (ls x) i + (tot + (i : Int)).fmod 3 - 1) tb] (fun t => .int (f (ls y) (ls x) i) t) := fun ta tb => by
            have h := lev_spec w mean mg mb (Txt.mul y (i : Int)) ta x tx (f (ls y) (ls x) i + (tot + (i : Int)).fmod 3 - 1) tb (by omega) (by exact om87 hx3 hx) hAm ax (by rw [hDm]; exact om57 hf3) (by exact om88 hf26 hf3)
            rw [hDm] at h
            exact h
          k_dflt (refine' SpV.use (H _ _) ?k1 ?k2 ?k3 ?k4 ?k5 ?kK ?kd ?ku ?_)
          (((case k1 | k2 | k3 | k4 | k5 => k_asm); (case kK => first | exact rfl | assumption); (case kd => first | exact Mine.room_up (by assumption) (by first | decide | omega) | exact Mine.room_0 (by assumption) (by first | decide | omega) | ktr_room); (case ku => first | exact Mine.room_up (by assumption) (by first | decide | omega) | exact Mine.room_0 (by assumption) (by first | decide | omega) | ktr_units)))
          intro t9 h9 tk9 F12 N13
          (try dsimp only)
          (try k_fold)
          (repeat' (first | (k_unfold; (try dsimp only)) | ((((fail_if_success (with_reducible first | show wpAny _ _ (exec (Stmt.For _ _ _ _ _) _) _ _ _ | show wpAny _ _ (exec (Stmt.While _ _ _ _) _) _ _ _ | show wpAny _ _ (pyIter _) _ _ _ | show wpAny _ _ (call (Value.ref _) _ _) _ _ _ | show wpAny _ _ (eval (Expr.Subscript _ (Expr.Slice none (some (Expr.BoolOp _ _ _)) none _) _) _) _ _ _ | show wpAny _ _ (exec (Stmt.If _ [Stmt.Assign [Expr.Tuple _ _ _] _ _] _ _) _) _ _ _ | show wpAny _ _ (exec (Stmt.If (Expr.BoolOp _ _ _) [Stmt.Assign [Expr.Name _ _] (Expr.Subscript _ _ _) _] _ _) _) _ _ _)); fail_if_success (with_reducible first | show wpAny _ _ (eval (Expr.ListComp _ _ _ _) _) _ _ _ | show wpAny _ _ (exec (Stmt.Assign _ (Expr.ListComp _ _ _ _) _) _) _ _ _ | show LCg.CompSrc _ _ _ _ _ _ _ _ _ _ _ _ _ _ | show LCg.CompEnd _ _ _ _ _ _ _ _ _ _ _ _ _ _ | show wpAny _ _ (call (Value.builtin "max") _) _ _ _ | show LCp.SrcLP _ _ _ _ _ _ _ _ _ _ _ _ _ _ _))); walk1) | ((((fail_if_success (with_reducible first | show wpAny _ _ (exec (Stmt.For _ _ _ _ _) _) _ _ _ | show wpAny _ _ (exec (Stmt.While _ _ _ _) _) _ _ _ | show wpAny _ _ (pyIter _) _ _ _ | show wpAny _ _ (call (Value.ref _) _ _) _ _ _ | show wpAny _ _ (eval (Expr.Subscript _ (Expr.Slice none (some (Expr.BoolOp _ _ _)) none _) _) _) _ _ _ | show wpAny _ _ (exec (Stmt.If _ [Stmt.Assign [Expr.Tuple _ _ _] _ _] _ _) _) _ _ _ | show wpAny _ _ (exec (Stmt.If (Expr.BoolOp _ _ _) [Stmt.Assign [Expr.Name _ _] (Expr.Subscript _ _ _) _] _ _) _) _ _ _)); fail_if_success (with_reducible first | show wpAny _ _ (eval (Expr.ListComp _ _ _ _) _) _ _ _ | show wpAny _ _ (exec (Stmt.Assign _ (Expr.ListComp _ _ _ _) _) _) _ _ _ | show LCg.CompSrc _ _ _ _ _ _ _ _ _ _ _ _ _ _ | show LCg.CompEnd _ _ _ _ _ _ _ _ _ _ _ _ _ _ | show wpAny _ _ (call (Value.builtin "max") _) _ _ _ | show LCp.SrcLP _ _ _ _ _ _ _ _ _ _ _ _ _ _ _))); dsimp only; walk1) | (leave1; (try dsimp only)) | fail "no step"))
          · exact absurd rfl (by assumption)
          · exact absurd rfl (by assumption)
          · rename Fr _ _ _ _ => F13
            rename News _ _ _ _ => N14
            exact ph4_end F13 (fun p hp => N14 p (.tail _ hp)) ho9 rfl rfl rfl rfl hne
    · have hi0 : i = 0 := by have : ¬ 0 < (i : Int) := by assumption
                             omega
      have hf0 : f (ls y) (ls x) i = 2 * (x.length : Int) := by
        rw [hi0]
        show D [] (ls x) = _
        rw [D_nil, ls_len]
      have H : ∀ ta tb, SpV w mean mg mb 28 2 24 [.str (Txt.mul y (i : Int)) ta, .str x tx, .int (2 * (x.length : Int) + (tot + (i : Int)).fmod 3 - 1) tb] (fun t => .int (2 * (x.length : Int)) t) := fun ta tb => by
        have h := lev_spec w mean mg mb (Txt.mul y (i : Int)) ta x tx (2 * (x.length : Int) + (tot + (i : Int)).fmod 3 - 1) tb (by omega) (by exact om87 hx3 hx) hAm ax (by rw [hDm, hf0]; omega) (by omega)
        rw [hDm, hf0] at h
        exact h
      k_dflt (refine' SpV.use (H _ _) ?k1 ?k2 ?k3 ?k4 ?k5 ?kK ?kd ?ku ?_)
      (((case k1 | k2 | k3 | k4 | k5 => k_asm); (case kK => first | exact rfl | assumption); (case kd => first | exact Mine.room_up (by assumption) (by first | decide | omega) | exact Mine.room_0 (by assumption) (by first | decide | omega) | ktr_room); (case ku => first | exact Mine.room_up (by assumption) (by first | decide | omega) | exact Mine.room_0 (by assumption) (by first | decide | omega) | ktr_units)))
      intro t9 h9 tk9 F9 N9
      (try dsimp only)
      (try k_fold)
      (repeat' (first | (k_unfold; (try dsimp only)) | ((((fail_if_success (with_reducible first | show wpAny _ _ (exec (Stmt.For _ _ _ _ _) _) _ _ _ | show wpAny _ _ (exec (Stmt.While _ _ _ _) _) _ _ _ | show wpAny _ _ (pyIter _) _ _ _ | show wpAny _ _ (call (Value.ref _) _ _) _ _ _ | show wpAny _ _ (eval (Expr.Subscript _ (Expr.Slice none (some (Expr.BoolOp _ _ _)) none _) _) _) _ _ _ | show wpAny _ _ (exec (Stmt.If _ [Stmt.Assign [Expr.Tuple _ _ _] _ _] _ _) _) _ _ _ | show wpAny _ _ (exec (Stmt.If (Expr.BoolOp _ _ _) [Stmt.Assign [Expr.Name _ _] (Expr.Subscript _ _ _) _] _ _) _) _ _ _)); fail_if_success (with_reducible first | show wpAny _ _ (eval (Expr.ListComp _ _ _ _) _) _ _ _ | show wpAny _ _ (exec (Stmt.Assign _ (Expr.ListComp _ _ _ _) _) _) _ _ _ | show LCg.CompSrc _ _ _ _ _ _ _ _ _ _ _ _ _ _ | show LCg.CompEnd _ _ _ _ _ _ _ _ _ _ _ _ _ _ | show wpAny _ _ (call (Value.builtin "max") _) _ _ _ | show LCp.SrcLP _ _ _ _ _ _ _ _ _ _ _ _ _ _ _))); walk1) | ((((fail_if_success (with_reducible first | show wpAny _ _ (exec (Stmt.For _ _ _ _ _) _) _ _ _ | show wpAny _ _ (exec (Stmt.While _ _ _ _) _) _ _ _ | show wpAny _ _ (pyIter _) _ _ _ | show wpAny _ _ (call (Value.ref _) _ _) _ _ _ | show wpAny _ _ (eval (Expr.Subscript _ (Expr.Slice none (some (Expr.BoolOp _ _ _)) none _) _) _) _ _ _ | show wpAny _ _ (exec (Stmt.If _ [Stmt.Assign [Expr.Tuple _ _ _] _ _] _ _) _) _ _ _ | show wpAny _ _ (exec (Stmt.If (Expr.BoolOp _ _ _) [Stmt.Assign [Expr.Name _ _] (Expr.Subscript _ _ _) _] _ _) _) _ _ _)); fail_if_success (with_reducible first | show wpAny _ _ (eval (Expr.ListComp _ _ _ _) _) _ _ _ | show wpAny _ _ (exec (Stmt.Assign _ (Expr.ListComp _ _ _ _) _) _) _ _ _ | show LCg.CompSrc _ _ _ _ _ _ _ _ _ _ _ _ _ _ | show LCg.CompEnd _ _ _ _ _ _ _ _ _ _ _ _ _ _ | show wpAny _ _ (call (Value.builtin "max") _) _ _ _ | show LCp.SrcLP _ _ _ _ _ _ _ _ _ _ _ _ _ _ _))); dsimp only; walk1) | (leave1; (try dsimp only)) | fail "no step"))
      · exact absurd rfl (by assumption)
      · exact absurd rfl (by assumption)
      · exact ph4_end (by assumption) (by assumption) (by assumption) rfl rfl rfl rfl hne
end Mine
end

section
namespace Mine
theorem execs_app (env : Env) (r : List Stmt) : ∀ l : List Stmt, execs (l ++ r) env = (do match ← execs l env with | .next => execs r env | f => pure f)
  | [] => by rw [List.nil_append, execs_nil, pure_bind]
  | st :: l => by
    rw [List.cons_append, execs_cons, execs_cons, bind_assoc]
    refine congrArg _ (funext fun f => ?_)
    cases f <;> first | exact execs_app env r l | (rw [pure_bind])
theorem wp_app {M : Model} {A : Around} {env : Env} {l r : List Stmt} {Q : Flow → Shared → Prop} {E : Value → Shared → Prop} {s : Shared}
    (h : wpAny M A (execs l env) (fun f s' => match f with | .next => wpAny M A (execs r env) Q E s' | f => Q f s') E s) : wpAny M A (execs (l ++ r) env) Q E s := by
  rw [execs_app]
  refine wpAny_bind (wpAny_mono h (fun f s' hf => ?_) fun _ _ z => z)
  cases f <;> first | exact hf | exact wpAny_pure hf
theorem law_walk (w : World) (mean : ExcName → Option Value) (mg mb : Str → Option Value) (dp un : Nat) (gd : Option (List Code)) (cd : Value) (L fa sa : Addr) (vs : List Value) (ns : List Int) (o1 o2 o3 : Obj) (A₀ : Around) (base h₀ : Heap) (s : Shared) (Q : Flow → Shared → Prop)
    (hB : Below A₀ base [] h₀) (hF : Fr h₀ L s.heap (fun z => List.lookup z [(Str.ofString "script", .ref sa)])) (hX : (hd.heap_39 w.params).In h₀) (hN : News h₀ L s.heap [(L + 1 + 1 + 1, o1), (L + 1 + 1, o2), (L + 1, o3)]) (hT : Top hd.view_39 (looseW hd.view_39 []) mean mg mb h₀)
    (hXT : (hd.heap_39 w.params).In base ∧ Top hd.view_39 (looseW hd.view_39 []) mean mg mb base) (hs : h₀.IsList sa vs.toArray) (hi : IntsAre vs ns) (hlen : ns.length ≤ 63) (d1 : o1.data = .cell none) (d2 : o2.data = .cell none) (d3 : o3.data = .cell none) (hdp : dp + 20 < recursionLimit) (hun : un + 200 < cLine)
    (ret : ∀ (h' : Heap) (tk' : Nat) (gens : Array GenState) (m' : Str → Option Value), (AllB s.gens → AllB gens) → Fr h₀ L h' m' → Q (.ret (.bool true)) { s with heap := h', toks := tk', gens := gens }) :
    wpAny (model Challenge.rw_ph0059_01.row.prog w) (lawTop w dp un gd L fa cd) (execs (lawDef w).body (lawEnv w L fa cd)) Q (fun _ _ => False) s := by
  have e : (lawDef w).body = (lawDef w).body.take 5 ++ (((lawDef w).body.drop 5).take 1 ++ (((lawDef w).body.drop 6).take 2 ++ (((lawDef w).body.drop 8).take 1 ++ (((lawDef w).body.drop 9).take 1 ++ (lawDef w).body.drop 10)))) := rfl
  rw [e]
  refine wp_app (phase1 w mean mg mb dp un gd cd L fa sa vs ns o1 o2 o3 A₀ base h₀ s _ _ hB hF hX hN hT hs hi hlen d1 d2 d3 hdp hun ?_)
  intro h1 tk1 x tx y ty tt rul u ot ax hx3 hx5 ay hy hot F1 N1 hrul
  (try dsimp only)
  refine wp_app (phase2 w mean mg mb dp un gd cd L fa o1 o2 ot A₀ base h₀ _ _ ns.sum tt x tx y ty rul u hB F1 hX N1 hT hXT hrul ax hx3 hx5 hot hdp hun ?_)
  intro h2 tk2 u2 gs e2 gens hgs hgl hgb hgr F2 N2
  (try dsimp only at hgb ⊢)
  have hp16 : 2 ^ (x.length - 1) ≤ 16 := Nat.le_trans (Nat.pow_le_pow_right (by decide) (show x.length - 1 ≤ 4 by exact om78 hx3 hx5)) (by decide)
  refine wp_app (phase3a w mean mg mb dp un gd cd L fa o1 o2 ot A₀ base h₀ _ _ ns.sum tt x tx y ty rul _ (lwLed gs) u2 hB F2 hX N2 hT hrul hgr ax hx3 hx5 ay hy hot d2 hdp hun ?_)
  intro h3 tk3 d o oc c hdl hds hTD hTells hhas hoc F3 N3
  (try dsimp only)
  have hd3 : L + 1 + 1 + 1 < d := hdl (L + 1 + 1 + 1, o1) (.tail _ (.head _))
  refine wp_app (phase3b w mean mg mb dp un gd cd L fa o1 o oc ot A₀ base h₀ _ _ ns.sum tt x tx y ty d rul gs e2 u2 c hB F3 hX N3 hT hgs (by omega) hx3 hx5 hds hTD hTells hhas hoc hdp hun hd3 ?_)
  intro h4 tk4 cs ts htl hts hcs F4 N4
  (try dsimp only)
  refine wp_app (phase3c w mean mg mb dp un gd cd L fa o1 o oc ot A₀ base h₀ _ _ ns.sum tt x tx y ty d cs ts (fun z => if z = Str.ofString "costs" then some (Value.ref cs) else if z = Str.ofString "rulers" then some (Value.ref rul) else if z = Str.ofString "word" then some (Value.str y ty) else if z = Str.ofString "total" then some (Value.int ns.sum tt) else u2 z) c hB (fr_eq F4 ?hm) hX N4 hT hx3 hx5 hds hTD hTells hhas hoc hot hdp hun hd3 ?_)
  case hm =>
    intro z
    by_cases h1 : z = Str.ofString "costs"
    · rw [if_pos h1, if_pos h1]
    · by_cases h2 : z = Str.ofString "word"
      · subst h2; rfl
      · by_cases h3 : z = Str.ofString "total"
        · subst h3; rfl
        · rw [if_neg h1, if_neg h2, if_neg h3]
  intro h5 tk5 to us hul hus hto F5 N5
  (try dsimp only)
  refine phase4 w mean mg mb dp un gd cd L fa o1 oc ot A₀ base h₀ _ _ ns.sum tt x tx y ty to cs ts us _ hB F5 hX N5 hT ax hx3 hx5 ay hy d1 hot (htl.trans hgl) hts hul hus hto (hcs (L + 1 + 1 + 1, o1) (.tail _ (.head _))) hdp hun ?_
  intro h6 tk6 m6 F6
  exact ret h6 tk6 gens m6 hgb F6
end Mine
end

theorem PySem.Challenge.cw_ph0059_01_holds : PySem.Challenge.rw_ph0059_01.Holds := by
  w_on
  refine Mine.hd ?_
  k_fill
  intro w s₀ s₁ mg mb G Y fa o pm cd doc dV kV ho hdo hcd hD hmg hg args vals as hpre hlay hrd hwl hlo
  have KX := kIn_of Y
  refine Ground.open G ?_
  intro T B D TE TW
  try (refine guard_noD D (by decide +kernel) ?_; clear D)
  have TA := at_of_top T
  clear hmg
  wrow_args hpre hlay hrd hwl hlo
  all_goals (
    first | refine callC_kw (enter_call ?_) | refine enter_call ?_ | refine callC_kw (enter_callW ?_) | refine enter_callW ?_ | w_how
    w_top on
    have K0 := below_caller (Top.heap T)
    w_call any ho hdo hcd hD T F
    skip)
  rename IntsAre _ _ => hi
  rename News _ _ _ _ => N0
  rename Heap.IsList _ _ _ => hl
  refine wpAny_mono (Mine.law_walk w (ExcName.means s₀.heap) mg mb (1 + claimMargin + 1) 7 (some []) cd s₁.heap.objs.size fa _ _ _ _ _ _ callerA s₁.heap s₁.heap _ _ K0 (Mine.fr_eq F ?hm) KX N0 T ⟨KX, T⟩ hl hi ?hlen ?d1 ?d2 ?d3 ?hdp ?hun ?ret) (fun _ _ z => z) (fun _ _ z => z.elim)
  case hm =>
    intro z
    by_cases h : z = Str.ofString "script"
    · subst h; rfl
    · have e : (z == Str.ofString "script") = false := by simpa using h
      refine Eq.trans ?_ (if_neg h).symm
      simp only [List.lookup, e]
  case hlen => omega
  case d1 => exact Eq.trans (by assumption) rfl
  case d2 => exact Eq.trans (by assumption) rfl
  case d3 => exact Eq.trans (by assumption) rfl
  case hdp => decide
  case hun => decide
  case ret =>
    intro h' tk' gens m' hgb F9
    refine ⟨.inl ⟨.bool true, .bool true, [], rfl, ?g1, .bool true, ?g2, ?g3⟩, .of_keep F9.keep, rfl, hgb ?g4⟩
    case g4 =>
      rw [hg]
      intro x hx
      simp at hx
    case g1 => exact raisesW_false (by wrow_none_raised)
    case g2 => first | rfl | exact postW_of (by wrow_shape) (by wtm_val) (by str_meet; first | done | w_fin)
    case g3 => exact unshared_nil


import PyProof.Rows.All
import Wide.All
import OpenK.AllK
import Wide.FinOn
import Lean
import PySem.Challenge.RW_sc0052_01
open PySem PySem.W PyProof.Rows PySem.Calls
set_option Elab.async false
set_option maxRecDepth 100000
set_option compiler.extract_closed false
namespace Mine
-- the head's run of the text's top is checked by the kernel in one go (no twins of the text's strings)
local macro_rules
  | `(tactic| first | refine $t | fail $_:str) => do
    match t with
    | `($_ $as*) =>
      unless as.size == 23 do Lean.Macro.throwUnsupported
      `(tactic| (refine $t; (case $(Lean.mkIdent `hl):ident => (intro w; kernel_rfl))))
    | _ => Lean.Macro.throwUnsupported
set_option maxHeartbeats 8000000 in
open_top hd for PySem.Challenge.rw_sc0052_01
end Mine
namespace Mine
open PySem.Challenge (rw_sc0052_01)
theorem fill1 : hd.heap_39 = hd.heap_39 ∧ rw_sc0052_01 = rw_sc0052_01 := by
  k_fill
  exact ⟨rfl, rfl⟩
-- Ar
theorem mid1 {lo hi : Nat} (h : lo < hi) : lo ≤ (lo + hi) / 2 ∧ (lo + hi) / 2 < hi := by
  constructor
  · exact (Nat.le_div_iff_mul_le (by decide)).mpr (by rw [Nat.mul_two]; exact Nat.add_le_add_left (Nat.le_of_lt h) lo)
  · exact (Nat.div_lt_iff_lt_mul (by decide)).mpr (by rw [Nat.mul_two]; exact Nat.add_lt_add_right h hi)
theorem ar61 {a0 : Nat} {a1 : Nat} {a2 : Nat} (h0 : a0 - a1 = a2 + (1 : Nat)) : a0 - (a1 + (1 : Nat)) = a2 := by rw [Nat.sub_add_eq, h0]; rfl
theorem ar79 {a0 : Nat} : (↑((↑a0 : Int) - (0 : Int)).toNat : Int) = (↑a0 : Int) := by rw [Int.sub_zero]; rfl
theorem ar6 {a0 : Nat} {a1 : Nat} {a2 : Nat} (h0 : a0 = a1 - a2) (h1 : (↑a2 : Int) < (↑a1 : Int)) : a1 - ((a2 + a1) / (2 : Nat) + (1 : Nat)) < a0 := by exact h0 ▸ Nat.sub_lt_sub_left (Int.ofNat_lt.mp h1) (Nat.lt_succ_of_le (mid1 (Int.ofNat_lt.mp h1)).1)
theorem ar8 {a0 : Nat} {a1 : Nat} {a2 : Nat} (h0 : a0 = a1 - a2) (h1 : (↑a2 : Int) < (↑a1 : Int)) : (a2 + a1) / (2 : Nat) - a2 < a0 := by exact h0 ▸ Nat.sub_lt_sub_right (mid1 (Int.ofNat_lt.mp h1)).1 (mid1 (Int.ofNat_lt.mp h1)).2
theorem ar264 {a0 : Nat} {a1 : Nat} {a2 : Nat} {a3 : Nat} (h0 : min a0 a1 - a2 = a3 + (1 : Nat)) : a2 < a0 := by exact Nat.lt_of_lt_of_le (Nat.lt_of_sub_pos (show 0 < min a0 a1 - a2 from h0 ▸ Nat.succ_pos _)) (Nat.min_le_left _ _)
theorem ar0 {a0 : Nat} {a1 : Nat} : (((↑a0 : Int) + (↑a1 : Int)) / (2 : Int)).toNat = (a0 + a1) / (2 : Nat) := by exact rfl
theorem ar1 {a0 : Nat} {a1 : Nat} : ((↑a0 : Int) + (↑a1 : Int)) / (2 : Int) = (↑((a0 + a1) / (2 : Nat)) : Int) := by first | lia | omega
theorem ar2 {a0 : Nat} : a0 = a0 - (0 : Nat) := by first | lia | omega
theorem ar3 {a0 : Nat} : a0 - (0 : Nat) < a0 + (1 : Nat) := by first | lia | omega
theorem ar4 {a0 : Nat} {a1 : Nat} {a2 : Nat} (h0 : a0 - a1 < a2) : a2 = a2 - (1 : Nat) + (1 : Nat) := by first | lia | omega
theorem ar5 {a0 : Nat} {a1 : Nat} (h0 : (↑a0 : Int) < (↑a1 : Int)) : a0 < a1 := by first | lia | omega
theorem ar7 {a0 : Nat} {a1 : Nat} {a2 : Nat} (h0 : a0 - a1 < a2 + (1 : Nat)) (h1 : (↑a1 : Int) < (↑a0 : Int)) : a0 - ((a1 + a0) / (2 : Nat) + (1 : Nat)) < a2 := by exact Nat.lt_of_lt_of_le (ar6 rfl h1) (Nat.le_of_lt_succ h0)
theorem ar9 {a0 : Nat} {a1 : Nat} {a2 : Nat} (h0 : a0 ≤ a1) (h1 : (↑a2 : Int) < (↑a0 : Int)) : (a2 + a0) / (2 : Nat) ≤ a1 := by exact Nat.le_trans (Nat.le_of_lt (mid1 (Int.ofNat_lt.mp h1)).2) h0
theorem ar10 {a0 : Nat} {a1 : Nat} {a2 : Nat} (h0 : a0 - a1 < a2 + (1 : Nat)) (h1 : (↑a1 : Int) < (↑a0 : Int)) : (a1 + a0) / (2 : Nat) - a1 < a2 := by exact Nat.lt_of_lt_of_le (ar8 rfl h1) (Nat.le_of_lt_succ h0)
theorem ar11 {a0 : Nat} {a1 : Nat} (h0 : ¬(↑a0 : Int) < (↑a1 : Int)) : ¬a0 < a1 := by first | lia | omega
theorem ar12 {a0 : Nat} (h0 : a0 < (1000 : Nat)) : (↑a0 : Int) < (9223372036854775808 : Int) := by first | lia | omega
theorem ar13 {a0 : Nat} {a1 : Nat} (h0 : a0 = a1) (h1 : a1 + (1 : Nat) < (1000 : Nat)) : a0 + (1 : Nat) ≤ (16777216 : Nat) := by first | lia | omega
theorem ar14 {a0 : Int} {a1 : Int} : a0 + (1 : Int) + a1 = a0 + ((1 : Int) + a1) := by first | lia | omega
theorem ar15 {a0 : Int} {a1 : Int} : a0 + a1 = a0 + ((0 : Int) + a1) := by first | lia | omega
theorem ar16 {a0 : Nat} (h0 : a0 + (1 : Nat) < (1000 : Nat)) : (0 : Nat) + a0 < (1000 : Nat) := by first | lia | omega
theorem ar17 {a0 : Nat} {a1 : Nat} (h0 : a0 + a1 < (1000 : Nat)) : a1 < (1000 : Nat) := by first | lia | omega
theorem ar18 {a0 : Nat} {a1 : Nat} (h0 : a0 + (a1 + (1 : Nat)) < (1000 : Nat)) : a1 < (1000 : Nat) := by first | lia | omega
theorem ar19 {a0 : Nat} : a0 - (1 : Nat) < a0 + (1 : Nat) := by exact Nat.lt_succ_of_le (Nat.sub_le _ _)
theorem ar20 {a0 : Nat} {a1 : Nat} (h0 : a0 + (a1 + (1 : Nat)) < (1000 : Nat)) : a0 + min (1 : Nat) a1 + (a1 - (1 : Nat)) < (1000 : Nat) := by exact Nat.lt_of_le_of_lt (Nat.add_le_add (Nat.add_le_add_left (Nat.min_le_left 1 a1) a0) (Nat.sub_le a1 1)) (Nat.add_right_comm a0 1 a1 ▸ h0)
theorem ar21 {a0 : Nat} {a1 : Nat} (h0 : a0 + (a1 + (1 : Nat)) < (1000 : Nat)) : a0 + ((0 : Nat) + (1 : Nat)) + a1 < (1000 : Nat) := by exact Nat.add_right_comm a0 1 a1 ▸ h0
theorem ar22 {a0 : Nat} (h0 : a0 + (1 : Nat) < (1000 : Nat)) : min (1 : Nat) a0 + (a0 - (1 : Nat)) < (1000 : Nat) := by exact Nat.lt_of_le_of_lt (Nat.add_le_add (Nat.min_le_left 1 a0) (Nat.sub_le a0 1)) (Nat.add_comm 1 a0 ▸ h0)
theorem ar23 {a0 : Nat} (h0 : a0 + (1 : Nat) < (1000 : Nat)) : (0 : Nat) + (1 : Nat) + a0 < (1000 : Nat) := by exact Nat.add_comm 1 a0 ▸ h0
theorem ar24 {a0 : Nat} {a1 : Nat} (h0 : a0 ≤ a1) : a0 - (1 : Nat) ≤ a1 := by exact Nat.le_trans (Nat.sub_le _ _) h0
theorem ar25 {a0 : Nat} {a1 : Nat} (h0 : a0 ≤ a1 - (1 : Nat)) : a0 ≤ a1 + (1 : Nat) := by exact Nat.le_trans h0 (Nat.le_trans (Nat.sub_le _ _) (Nat.le_succ _))
theorem ar26 {a0 : Nat} {a1 : Nat} {a2 : Nat} {a3 : Nat} {a4 : Nat} {a5 : Nat} {a6 : Nat} {a7 : Nat} {a8 : Nat} (h0 : a0 < a1) (h1 : a2 < a3) (h2 : a3 < a4) (h3 : a4 < a5) (h4 : a5 < a6) (h5 : a6 < a7) (h6 : a7 < a8) (h7 : a8 < a0) : a1 ≠ a2 := by exact Nat.ne_of_gt (Nat.lt_trans (Nat.lt_trans (Nat.lt_trans (Nat.lt_trans (Nat.lt_trans (Nat.lt_trans (Nat.lt_trans h1 h2) h3) h4) h5) h6) h7) h0)
theorem ar27 {a0 : Nat} (h0 : (↑a0 : Int) % (8 : Int) = (0 : Int)) : a0 % (8 : Nat) = (0 : Nat) := by first | lia | omega
theorem ar28 {a0 : Nat} (h0 : (↑a0 : Int) % (8 : Int) = (1 : Int)) : a0 % (8 : Nat) = (1 : Nat) := by first | lia | omega
theorem ar29 {a0 : Nat} (h0 : (↑a0 : Int) % (8 : Int) = (2 : Int)) : a0 % (8 : Nat) = (2 : Nat) := by first | lia | omega
theorem ar30 {a0 : Nat} (h0 : (↑a0 : Int) % (8 : Int) = (3 : Int)) : a0 % (8 : Nat) = (3 : Nat) := by first | lia | omega
theorem ar31 {a0 : Nat} (h0 : (↑a0 : Int) % (8 : Int) = (4 : Int)) : a0 % (8 : Nat) = (4 : Nat) := by first | lia | omega
theorem ar32 {a0 : Nat} (h0 : (↑a0 : Int) % (8 : Int) = (5 : Int)) : a0 % (8 : Nat) = (5 : Nat) := by first | lia | omega
theorem ar33 {a0 : Nat} (h0 : (↑a0 : Int) % (8 : Int) = (6 : Int)) : a0 % (8 : Nat) = (6 : Nat) := by first | lia | omega
theorem ar34 {a0 : Nat} (h0 : (↑a0 : Int) % (8 : Int) = (7 : Int)) : a0 % (8 : Nat) = (7 : Nat) := by first | lia | omega
theorem ar35 {a0 : Nat} {a1 : Nat} {a2 : Nat} (h0 : a0 + (a1 + (1 : Nat)) = a2) : a0 < a2 := by first | lia | omega
theorem ar36 {a0 : Nat} {a1 : Nat} {a2 : Nat} (h0 : a0 + (a1 + (1 : Nat)) = a2) : a0 + (1 : Nat) + a1 = a2 := by first | lia | omega
theorem ar37 {a0 : Nat} : (0 : Int) ≤ (↑a0 : Int) := by first | lia | omega
theorem ar38 {a0 : Nat} (h0 : a0 < (1000000 : Nat)) : (↑a0 : Int) < (2 : Int) ^ (63 : Nat) := by exact Int.ofNat_lt.mpr (Nat.lt_trans h0 (by decide : 1000000 < 2 ^ 63))
theorem ar39 {a0 : Nat} {a1 : Nat} {a2 : Nat} (h0 : a0 = a1) (h1 : (0 : Nat) < a2) (h2 : a1 = a2) : -(↑a0 : Int) ≤ (-1 : Int) := by first | lia | omega
theorem ar40 {a0 : Nat} {a1 : Nat} {a2 : Nat} (h0 : a0 = a1) (h1 : a1 = a2) : ((-1 : Int) + (↑a0 : Int)).toNat = a2 - (1 : Nat) := by subst h0 h1; rw [Int.add_comm]; exact Int.toNat_sub _ 1
theorem ar41 {a0 : Nat} {a1 : Nat} (h0 : a0 < a1) (h1 : a1 < (1000 : Nat)) : (↑a0 : Int) < (2 : Int) ^ (63 : Nat) := by exact Int.ofNat_lt.mpr (Nat.lt_trans (Nat.lt_trans h0 h1) (by decide : 1000 < 2 ^ 63))
theorem ar42 {a0 : Nat} {a1 : Nat} (h0 : a0 < a1) : (↑a0 : Int) < (↑a1 : Int) := by first | lia | omega
theorem ar43 {a0 : Nat} {a1 : Nat} : -(2 : Int) ^ (62 : Nat) ≤ (↑a0 : Int) + (1 : Int) + (↑a1 : Int) := by first | lia | omega
theorem ar44 {a0 : Nat} {a1 : Nat} (h0 : a0 < (10 : Nat)) (h1 : a1 < (100 : Nat)) : (↑a1 : Int) + (1 : Int) + (↑a0 : Int) < (2 : Int) ^ (62 : Nat) := by first | lia | omega
theorem ar45 {a0 : Nat} {a1 : Nat} {a2 : Nat} (h0 : a0 = a1 + (1 : Nat) + a2) : (↑((↑a1 : Int) + (1 : Int) + (↑a2 : Int) - (0 : Int)).toNat : Int) = (↑a0 : Int) := by exact h0 ▸ ar79 (a0 := a1 + 1 + a2)
theorem ar46 {a0 : Nat} {a1 : Nat} {a2 : Nat} (h0 : a0 < (10 : Nat)) (h1 : a1 < (100 : Nat)) (h2 : a2 = a1 + (1 : Nat) + a0) : a2 ≤ (16777216 : Nat) := by exact (Nat.le_trans (Nat.le_trans (Nat.le_of_eq h2) (Nat.add_le_add (Nat.add_le_add (Nat.le_of_lt_succ h1) (Nat.le_refl 1)) (Nat.le_of_lt_succ h0))) (by decide))
theorem ar47 {a0 : Nat} {a1 : Nat} {a2 : Nat} {a3 : Nat} (h0 : a0 = a1) (h1 : a2 < min a0 a3) : a2 < a1 := by exact h0 ▸ Nat.lt_of_lt_of_le h1 (Nat.min_le_left _ _)
theorem ar48 {a0 : Nat} {a1 : Nat} {a2 : Nat} {a3 : Nat} (h0 : a0 < (10 : Nat)) (h1 : a1 < (100 : Nat)) (h2 : a2 = a1 + (1 : Nat) + a0) (h3 : a3 = a2) : a3 < (1000 : Nat) := by exact (Nat.lt_of_le_of_lt (Nat.le_trans (Nat.le_of_eq h3) (Nat.le_trans (Nat.le_of_eq h2) (Nat.add_le_add (Nat.add_le_add (Nat.le_of_lt_succ h1) (Nat.le_refl 1)) (Nat.le_of_lt_succ h0)))) (by decide))
theorem ar49 {a0 : Nat} {a1 : Nat} {a2 : Nat} {a3 : Nat} (h0 : a0 = a1) (h1 : a2 = a1) (h2 : a3 = a0) : min a2 a3 = a1 := by rw [h1, h2, h0, Nat.min_self]
theorem ar50 {a0 : Int} {a1 : Int} (h0 : (0 : Int) ≤ a0) (h1 : a0 < (1000 : Int)) (h2 : (0 : Int) ≤ a1) (h3 : a1 < (1000 : Int)) : (((-9223372036854775808 : Int) ≤ a0 ∧ a0 < (9223372036854775808 : Int)) ∧ (-9223372036854775808 : Int) ≤ a1 ∧ a1 < (9223372036854775808 : Int)) ∧ (-9223372036854775808 : Int) ≤ (a1 - a0 - (1 : Int)) / (2 : Int) + (1 : Int) ∧ (a1 - a0 - (1 : Int)) / (2 : Int) + (1 : Int) < (9223372036854775808 : Int) := by first | lia | omega
theorem ar51 {a0 : Int} {a1 : Int} (h0 : (0 : Int) ≤ a0) (h1 : a0 < (1000 : Int)) (h2 : (0 : Int) ≤ a1) (h3 : a1 < (1000 : Int)) : (((-9223372036854775808 : Int) ≤ a0 ∧ a0 < (9223372036854775808 : Int)) ∧ (-9223372036854775808 : Int) ≤ a1 ∧ a1 < (9223372036854775808 : Int)) ∧ (-9223372036854775808 : Int) ≤ (0 : Int) ∧ (0 : Int) < (9223372036854775808 : Int) := by first | lia | omega
theorem ar52 {a0 : Int} (h0 : (0 : Int) ≤ a0) (h1 : a0 < (1000 : Int)) : (-9223372036854775808 : Int) ≤ a0 + (1 : Int) ∧ a0 + (1 : Int) < (9223372036854775808 : Int) := by first | lia | omega
theorem ar53 {a0 : Nat} {a1 : Nat} : a0 ≤ a0 + a1 := by first | lia | omega
theorem ar54 {a0 : Nat} {a1 : Nat} {a2 : Nat} (h0 : a0 ≤ a1) : a0 ≤ a2 + a1 := by first | lia | omega
theorem ar55 {a0 : Nat} {a1 : Nat} {a2 : Nat} : a0 ≤ a1 + (a0 + a2) := by first | lia | omega
theorem ar56 {a0 : Nat} : (0 : Int) ≤ (↑a0 : Int) + (1 : Int) := by first | lia | omega
theorem ar57 {a0 : Nat} {a1 : Nat} (h0 : a0 < (100 : Nat)) (h1 : a1 < a0) : (↑a1 : Int) + (1 : Int) < (1000 : Int) := by first | lia | omega
theorem ar58 {a0 : Nat} (h0 : a0 < (100 : Nat)) : (↑a0 : Int) < (1000 : Int) := by first | lia | omega
theorem ar59 {a0 : Nat} {a1 : Nat} {a2 : Nat} {a3 : Nat} (h0 : a0 < a1) (h1 : a1 = (a2 - a3) / (2 : Nat)) : a3 + (1 : Nat) + (2 : Nat) * a0 ≤ a2 := by first | lia | omega
theorem ar60 {a0 : Nat} {a1 : Nat} (h0 : a0 < a1) : a1 - a0 = a1 - a0 - (1 : Nat) + (1 : Nat) := by exact (Nat.sub_add_cancel (Nat.sub_pos_of_lt h0)).symm
theorem ar62 {a0 : Nat} {a1 : Nat} {a2 : Nat} (h0 : (↑a0 : Int) = (↑a1 : Int) + (1 : Int) + (↑a2 : Int) * (2 : Int)) : a0 = a1 + (1 : Nat) + (2 : Nat) * a2 := by first | lia | omega
theorem ar63 {a0 : Nat} : (2 : Int) * (↑a0 : Int) = (↑a0 : Int) * (2 : Int) := by first | lia | omega
theorem ar64 {a0 : Nat} {a1 : Nat} : a0 + (1 : Nat) ≤ a0 + (1 : Nat) + (2 : Nat) * a1 := by first | lia | omega
theorem ar65 {a0 : Nat} : (↑(a0 + (1 : Nat)) : Int) = (↑a0 : Int) + (1 : Int) := by first | lia | omega
theorem ar66 {a0 : Nat} {a1 : Nat} : (↑(a0 + (1 : Nat) + (2 : Nat) * a1) : Int) = (↑a0 : Int) + (1 : Int) + (↑a1 : Int) * (2 : Int) := by first | lia | omega
theorem ar67 {a0 : Nat} {a1 : Nat} {a2 : Nat} (h0 : a0 < (100 : Nat)) : min ((2 : Nat) * a1) (a0 - (a2 + (1 : Nat))) * (1000 : Nat) + min ((2 : Nat) * a1) (a0 - (a2 + (1 : Nat))) ≤ (1048576 : Nat) := by exact (Nat.le_trans (Nat.add_le_add (Nat.mul_le_mul (Nat.le_trans (Nat.min_le_right _ _) (Nat.le_trans (Nat.sub_le _ _) (Nat.le_of_lt_succ h0))) (Nat.le_refl 1000)) (Nat.le_trans (Nat.min_le_right _ _) (Nat.le_trans (Nat.sub_le _ _) (Nat.le_of_lt_succ h0)))) (by decide))
theorem ar68 {a0 : Nat} {a1 : Nat} : a0 + (1 : Nat) + (2 : Nat) * a1 - (a0 + (1 : Nat)) = (2 : Nat) * a1 := by exact Nat.add_sub_cancel_left _ _
theorem ar69 {a0 : Nat} {a1 : Nat} (h0 : (↑a0 : Int) = (↑a1 : Int)) : a0 = a1 := by first | lia | omega
theorem ar70 {a0 : Nat} {a1 : Nat} {a2 : Nat} (h0 : a0 < (10 : Nat)) (h1 : a1 < (100 : Nat)) (h2 : a2 = a1 + (1 : Nat) + a0) : a2 * (1 : Nat) + a2 ≤ (1048576 : Nat) := by exact (Nat.le_trans (Nat.add_le_add (Nat.mul_le_mul (Nat.le_trans (Nat.le_of_eq h2) (Nat.add_le_add (Nat.add_le_add (Nat.le_of_lt_succ h1) (Nat.le_refl 1)) (Nat.le_of_lt_succ h0))) (Nat.le_refl 1)) (Nat.le_trans (Nat.le_of_eq h2) (Nat.add_le_add (Nat.add_le_add (Nat.le_of_lt_succ h1) (Nat.le_refl 1)) (Nat.le_of_lt_succ h0)))) (by decide))
theorem ar71 {a0 : Nat} {a1 : Nat} {a2 : Nat} {a3 : Nat} {a4 : Nat} {a5 : Nat} (h0 : a0 < (10 : Nat)) (h1 : a1 < (100 : Nat)) (h2 : a2 = a1 + (1 : Nat) + a0) (h3 : a3 + a4 ≤ a2) (h4 : a5 = a3) : a5 ≤ (16777216 : Nat) := by first | lia | omega
theorem ar72 {a0 : Nat} : a0 + (1 : Nat) ≠ (0 : Nat) := by first | lia | omega
theorem ar73 {a0 : Nat} {a1 : Nat} {a2 : Nat} (h0 : a0 ≤ a1) (h1 : a2 + (1 : Nat) ≤ a0) : a1 = a1 - (1 : Nat) + (1 : Nat) := by exact (Nat.sub_add_cancel (Nat.le_trans (Nat.le_trans (Nat.le_add_left 1 a2) h1) h0)).symm
theorem ar74 {a0 : Nat} {a1 : Nat} {a2 : Nat} (h0 : a0 + (1 : Nat) ≤ a1) (h1 : a1 ≤ a2 + (1 : Nat)) : a0 ≤ a2 := by first | lia | omega
theorem ar75 {a0 : Nat} {a1 : Nat} {a2 : Nat} (h0 : a0 + (a1 + (1 : Nat)) ≤ a2) : a0 + (1 : Nat) + a1 ≤ a2 := by exact Nat.add_right_comm a0 1 a1 ▸ h0
theorem ar76 {a0 : Nat} : (↑a0 : Int) + (1 : Int) - (1 : Int) = (↑a0 : Int) := by first | lia | omega
theorem ar77 {a0 : Nat} : -(2 : Int) ^ (62 : Nat) ≤ (↑a0 : Int) := by first | lia | omega
theorem ar78 {a0 : Nat} (h0 : a0 < (100 : Nat)) : (↑a0 : Int) < (2 : Int) ^ (62 : Nat) := by exact Int.ofNat_lt.mpr (Nat.lt_trans h0 (by decide : 100 < 2 ^ 62))
theorem ar80 {a0 : Nat} : (0 : Int) + (↑a0 : Int) * (1 : Int) = (↑a0 : Int) := by first | lia | omega
theorem ar81 {a0 : Nat} {a1 : Nat} (h0 : a0 + (3 : Nat) < a1) : a0 + (1 : Nat) < a1 := by first | lia | omega
theorem ar82 {a0 : Nat} {a1 : Nat} (h0 : a0 ≤ a1) : a0 + (1 : Nat) ≤ a1 + (1 : Nat) := by first | lia | omega
theorem ar83 {a0 : Nat} {a1 : Prop} (h0 : a0 + (1 : Nat) + (1 : Nat) + (1 : Nat) + (1 : Nat) + (1 : Nat) + (1 : Nat) + (1 : Nat) < (7 : Nat)) : a1 := by first | lia | omega
theorem ar84 {a0 : Nat} {a1 : Nat} {a2 : Nat} (h0 : a0 + a1 = a2) : a0 + (1 : Nat) + (a1 + (1 : Nat)) = a2 + (1 : Nat) + (1 : Nat) := by first | lia | omega
theorem ar85 {a0 : Nat} : a0 - (1 : Nat) ≤ a0 := by first | lia | omega
theorem ar86 {a0 : Nat} {a1 : Nat} : min a0 a1 + (a1 - a0 + (1 : Nat)) = a1 + (1 : Nat) := by exact congrArg Nat.succ ((Nat.add_comm _ _).trans ((Nat.min_comm a0 a1) ▸ Nat.sub_add_min_cancel a1 a0))
theorem ar87 {a0 : Nat} {a1 : Nat} (h0 : a0 < (7 : Nat)) (h1 : a1 < (100 : Nat)) : (↑a1 : Int) + (1 : Int) + (↑a0 : Int) < (2 : Int) ^ (62 : Nat) := by first | lia | omega
theorem ar88 {a0 : Nat} {a1 : Nat} {a2 : Nat} (h0 : a0 < (7 : Nat)) (h1 : a1 < (100 : Nat)) (h2 : a2 = a1 + (1 : Nat) + a0) : a2 ≤ (16777216 : Nat) := by exact (Nat.le_trans (Nat.le_trans (Nat.le_of_eq h2) (Nat.add_le_add (Nat.add_le_add (Nat.le_of_lt_succ h1) (Nat.le_refl 1)) (Nat.le_of_lt_succ h0))) (by decide))
theorem ar89 {a0 : Nat} : (↑a0 : Int) % (2 : Int) = (↑(a0 % (2 : Nat)) : Int) := by first | lia | omega
theorem ar90 {a0 : Nat} : a0 % (2 : Nat) = (0 : Nat) ∨ a0 % (2 : Nat) = (1 : Nat) := by first | lia | omega
theorem ar91 {a0 : Nat} {a1 : Nat} {a2 : Nat} {a3 : Nat} (h0 : a0 < (7 : Nat)) (h1 : a1 = a0) (h2 : a2 + a3 = a1) : a2 + a3 ≤ (16777216 : Nat) := by exact (Nat.le_of_lt (Nat.lt_trans (Nat.lt_of_le_of_lt (Nat.le_trans (Nat.le_of_eq h2) (Nat.le_of_eq h1)) h0) (by decide : 7 < 16777216)))
theorem ar92 {a0 : Nat} {a1 : Nat} {a2 : Nat} {a3 : Nat} (h0 : a0 < (7 : Nat)) (h1 : a1 = a0) (h2 : a2 + a3 = a1) : a3 + a2 ≤ (16777216 : Nat) := by exact Nat.le_trans (Nat.le_of_eq ((Nat.add_comm a3 a2).trans (h2.trans h1))) (Nat.le_trans (Nat.le_of_lt h0) (by decide))
theorem ar93 {a0 : Nat} {a1 : Nat} {a2 : Nat} (h0 : a0 + a1 = a2) : a1 + a0 = a2 := by first | lia | omega
theorem ar94 {a0 : Nat} {a1 : Nat} {a2 : Nat} {a3 : Nat} (h0 : a0 < (7 : Nat)) (h1 : a1 < (100 : Nat)) (h2 : a2 = a1 + (1 : Nat) + a0) (h3 : a3 ≤ a2) : a3 < (120 : Nat) := by exact (Nat.lt_of_le_of_lt (Nat.le_trans h3 (Nat.le_trans (Nat.le_of_eq h2) (Nat.add_le_add (Nat.add_le_add (Nat.le_of_lt_succ h1) (Nat.le_refl 1)) (Nat.le_of_lt_succ h0)))) (by decide))
theorem ar95 {a0 : Nat} {a1 : Nat} (h0 : a0 + (2 : Nat) < a1) : a0 + (1 : Nat) < a1 := by exact Nat.lt_trans (Nat.lt_succ_self _) h0
theorem ar96 {a0 : Nat} : (↑(a0 + (1 : Nat)) : Int) - (1 : Int) = (↑a0 : Int) := by first | lia | omega
theorem ar97 {a0 : Nat} {a1 : Nat} {a2 : Nat} (h0 : a0 < (120 : Nat)) (h1 : a1 = a2) (h2 : a2 = a0) : a1 ≤ (16777216 : Nat) := by exact (Nat.le_of_lt (Nat.lt_trans (Nat.lt_of_le_of_lt (Nat.le_trans (Nat.le_of_eq h1) (Nat.le_of_eq h2)) h0) (by decide : 120 < 16777216)))
theorem ar98 {a0 : Nat} {a1 : Nat} {a2 : Nat} {a3 : Nat} {a4 : Nat} (h0 : a0 < (7 : Nat)) (h1 : a1 = a0) (h2 : a2 ≤ a3) (h3 : a3 < a1) (h4 : a4 = a2) : a4 < (1000 : Nat) := by exact (Nat.lt_trans (Nat.lt_trans (Nat.lt_of_lt_of_le (Nat.lt_of_le_of_lt (Nat.le_trans (Nat.le_of_eq h4) h2) h3) (Nat.le_of_eq h1)) h0) (by decide : 7 < 1000))
theorem ar99 {a0 : Nat} {a1 : Nat} {a2 : Nat} {a3 : Nat} (h0 : a0 = a1 + a2) (h1 : a0 = a3) : a3 = a1 + a2 := by first | lia | omega
theorem ar100 {a0 : Nat} {a1 : Nat} {a2 : Nat} {a3 : Nat} {a4 : Nat} {a5 : Nat} {a6 : Nat} {a7 : Nat} (h0 : a0 < (10 : Nat)) (h1 : a1 ≤ a2) (h2 : a2 < a0) (h3 : a3 = a4 + a5) (h4 : a3 = a6) (h5 : a6 = a1) (h6 : a7 = a4 + a5) : a7 < (10 : Nat) := by exact (Nat.lt_trans (Nat.lt_of_le_of_lt (Nat.le_trans (Nat.le_trans (Nat.le_trans (Nat.le_trans (Nat.le_of_eq h6) (Nat.le_of_eq h3.symm)) (Nat.le_of_eq h4)) (Nat.le_of_eq h5)) h1) h2) h0)
theorem ar101 {a0 : Nat} {a1 : Nat} (h0 : a0 = a1 + (0 : Nat)) : a1 = a0 := by first | lia | omega
theorem ar102 {a0 : Nat} {a1 : Nat} (h0 : a0 < (10 : Nat)) (h1 : a0 = a1 + (0 : Nat)) : a1 < (1000000 : Nat) := by exact Nat.lt_of_le_of_lt (Nat.le_of_eq h1.symm) (Nat.lt_trans h0 (by decide))
theorem ar103 {a0 : Nat} {a1 : Nat} {a2 : Nat} (h0 : a0 < (10 : Nat)) (h1 : a0 = a1 + (a2 + (1 : Nat))) : a1 < (1000000 : Nat) := by exact Nat.lt_of_le_of_lt (Nat.le_trans (Nat.le_add_right a1 (a2+1)) (Nat.le_of_eq h1.symm)) (Nat.lt_trans h0 (by decide))
theorem ar104 {a0 : Nat} {a1 : Nat} {a2 : Nat} {a3 : Nat} (h0 : a0 < (10 : Nat)) (h1 : a1 < a0) (h2 : a2 ≤ a1) (h3 : (↑a3 : Int) < (↑a2 : Int)) : a3 < (1000000 : Nat) := by first | lia | omega
theorem ar105 {a0 : Nat} {a1 : Nat} {a2 : Prop} (h0 : (↑a0 : Int) = (↑(a0 + (a1 + (1 : Nat))) : Int)) : a2 := by first | lia | omega
theorem ar106 {a0 : Nat} {a1 : Nat} {a2 : Nat} {a3 : Nat} {a4 : Nat} {a5 : Nat} (h0 : a0 ≤ a1) (h1 : a2 = a0) (h2 : a3 = a4 + (a5 + (1 : Nat))) (h3 : a3 = a2) : a4 + (a5 + (1 : Nat)) ≤ a1 + (1 : Nat) := by exact (Nat.le_of_lt (Nat.lt_of_le_of_lt (Nat.le_trans (Nat.le_trans (Nat.le_trans (Nat.le_of_eq h2.symm) (Nat.le_of_eq h3)) (Nat.le_of_eq h1)) h0) (Nat.lt_add_of_pos_right (by decide))))
theorem ar107 {a0 : Nat} {a1 : Nat} {a2 : Nat} {a3 : Nat} (h0 : a0 < (10 : Nat)) (h1 : a1 ≤ a2) (h2 : a2 = a0) (h3 : a3 = a1) : a3 ≤ (16777216 : Nat) := by exact (Nat.le_of_lt (Nat.lt_trans (Nat.lt_of_le_of_lt (Nat.le_trans (Nat.le_trans (Nat.le_of_eq h3) h1) (Nat.le_of_eq h2)) h0) (by decide : 10 < 16777216)))
theorem ar108 {a0 : Nat} {a1 : Nat} (h0 : a0 = a1) (h1 : a1 < (12 : Nat)) : (↑a0 : Int) < (2 : Int) ^ (63 : Nat) := by exact Int.ofNat_lt.mpr (Nat.lt_trans (h0 ▸ h1) (by decide : 12 < 2 ^ 63))
theorem ar109 {a0 : Nat} {a1 : Nat} (h0 : (0 : Nat) + a0 = a1) : a0 = a1 := by first | lia | omega
theorem ar110 {a0 : Nat} {a1 : Nat} {a2 : Nat} (h0 : a0 + (1 : Nat) + a1 = a2) : a1 < a2 := by first | lia | omega
theorem ar111 {a0 : Nat} {a1 : Nat} {a2 : Nat} (h0 : a0 + (1 : Nat) + a1 = a2) : a0 + (a1 + (1 : Nat)) = a2 := by exact Nat.add_right_comm a0 1 a1 ▸ h0
theorem ar112 {a0 : Nat} : (4 : Int) + (↑a0 : Int) % (2 : Int) = (↑((4 : Nat) + a0 % (2 : Nat)) : Int) := by first | lia | omega
theorem ar113 {a0 : Nat} {a1 : Nat} (h0 : a0 = (5 : Nat)) : min ((4 : Nat) + a1 % (2 : Nat)) a0 = (4 : Nat) + a1 % (2 : Nat) := by exact h0 ▸ Nat.min_eq_left (Nat.add_le_add_left (Nat.le_of_lt_succ (Nat.mod_lt _ (by decide))) 4)
theorem ar114 {a0 : Nat} : -(2 : Int) ^ (62 : Nat) ≤ (↑((4 : Nat) + a0 % (2 : Nat)) : Int) := by first | lia | omega
theorem ar115 {a0 : Nat} : (↑((4 : Nat) + a0 % (2 : Nat)) : Int) < (2 : Int) ^ (62 : Nat) := by first | lia | omega
theorem ar116 {a0 : Nat} : (↑((↑((4 : Nat) + a0 % (2 : Nat)) : Int) - (0 : Int)).toNat : Int) = (↑((4 : Nat) + a0 % (2 : Nat)) : Int) := by exact ar79
theorem ar117 {a0 : Nat} {a1 : Nat} (h0 : a0 < (4 : Nat) + a1 % (2 : Nat)) : a0 < (5 : Nat) := by exact Nat.lt_of_lt_of_le h0 (Nat.add_le_add_left (Nat.le_of_lt_succ (Nat.mod_lt _ (by decide))) 4)
theorem ar118 {a0 : Nat} {a1 : Nat} (h0 : a0 < (4 : Nat) + a1 % (2 : Nat)) : a0 < (1000000 : Nat) := by exact (Nat.lt_of_le_of_lt (Nat.le_trans (Nat.le_of_lt h0) (Nat.add_le_add (Nat.le_refl 4) (Nat.le_of_lt_succ (Nat.mod_lt _ (by decide))))) (by decide))
theorem ar119 {a0 : Nat} (h0 : (↑((4 : Nat) + a0 % (2 : Nat)) : Int) = (0 : Int)) : False := by first | lia | omega
theorem ar120 {a0 : Int} : a0 % (4 : Int) = (↑(a0 % (4 : Int)).toNat : Int) := by first | lia | omega
theorem ar121 {a0 : Int} : (a0 % (4 : Int)).toNat < (4 : Nat) := by first | lia | omega
theorem ar122 {a0 : Int} : (a0 % (4 : Int)).toNat < (1000000 : Nat) := by first | lia | omega
theorem ar123 {a0 : Nat} (h0 : a0 < (3 : Nat)) : (↑a0 : Int) < (2 : Int) ^ (62 : Nat) := by first | lia | omega
theorem ar124 {a0 : Nat} {a1 : Nat} {a2 : Nat} (h0 : a0 = a1) : (↑a0 : Int) + (↑a2 : Int) = (↑(a1 + a2) : Int) := by first | lia | omega
theorem ar125 {a0 : Nat} {a1 : Nat} (h0 : a0 ≤ (2 : Nat) * a1) : (1 : Nat) + a0 ≤ (2 : Nat) * (a1 + (1 : Nat)) := by first | lia | omega
theorem ar126 {a0 : Nat} {a1 : Nat} (h0 : a0 ≤ (2 : Nat) * a1) : (2 : Nat) + a0 ≤ (2 : Nat) * (a1 + (1 : Nat)) := by first | lia | omega
theorem ar127 {a0 : Nat} {a1 : Nat} {a2 : Nat} (h0 : a0 ≤ (2 : Nat)) (h1 : a1 ≤ (2 : Nat) * a2) : a0 + a1 ≤ (2 : Nat) * (a2 + (1 : Nat)) := by first | lia | omega
theorem ar128 {a0 : Nat} {a1 : Nat} (h0 : a0 ≤ (2 : Nat) * a1) : a0 + (1 : Nat) ≤ (2 : Nat) * (a1 + (1 : Nat)) := by first | lia | omega
theorem ar129 {a0 : Nat} {a1 : Nat} (h0 : a0 ≤ (2 : Nat) * a1) : a0 ≤ (2 : Nat) * (a1 + (1 : Nat)) := by first | lia | omega
theorem ar130 {a0 : Nat} {a1 : Nat} {a2 : Nat} (h0 : a0 ≤ (2 : Nat) * a1) (h1 : a2 ≤ (2 : Nat) * a0) : a2 + (1 : Nat) + (1 : Nat) ≤ (4 : Nat) * a1 + (2 : Nat) := by first | lia | omega
theorem ar131 {a0 : Nat} {a1 : Nat} {a2 : Nat} (h0 : a0 = a1 + (1 : Nat)) (h1 : a0 = a2) : a2 = a1 + (1 : Nat) := by first | lia | omega
theorem ar132 {a0 : Nat} {a1 : Nat} (h0 : a0 < a1) : min a0 a1 = a0 := by exact Nat.min_eq_left (Nat.le_of_lt h0)
theorem ar133 {a0 : Int} : a0 / (8 : Int) % (4 : Int) = (↑(a0 / (8 : Int) % (4 : Int)).toNat : Int) := by first | lia | omega
theorem ar134 {a0 : Int} : (a0 / (8 : Int) % (4 : Int)).toNat < (4 : Nat) := by first | lia | omega
theorem ar135 {a0 : Nat} {a1 : Nat} (h0 : a0 ≤ (1000 : Nat)) (h1 : a1 ≤ (a0 + (1 : Nat)) * (14 : Nat)) : a0 + a1 ≤ (16777216 : Nat) := by exact (Nat.le_trans (Nat.add_le_add h0 (Nat.le_trans h1 (Nat.mul_le_mul (Nat.add_le_add h0 (Nat.le_refl 1)) (Nat.le_refl 14)))) (by decide))
theorem ar136 {a0 : Nat} {a1 : Nat} {a2 : Nat} (h0 : a0 + a1 ≤ (16777216 : Nat)) (h1 : a2 ≤ a1) : ¬a0 + a2 > (16777216 : Nat) := by first | lia | omega
theorem ar137 {a0 : Nat} {a1 : Prop} (h0 : a0 ≤ (7 : Nat) ∧ a1) : a0 ≤ (16777216 : Nat) := by first | lia | omega
theorem ar138 {a0 : Nat} {a1 : Prop} (h0 : a0 ≤ (7 : Nat) ∧ a1) : a0 * (2 : Nat) + a0 ≤ (1048576 : Nat) := by first | lia | omega
theorem ar139 {a0 : Int} : (-9223372036854775808 : Int) ≤ max (a0 / (8 : Int) % (4 : Int)) (0 : Int) ∧ max (a0 / (8 : Int) % (4 : Int)) (0 : Int) < (9223372036854775808 : Int) := by first | lia | omega
theorem ar140 {a0 : Nat} {a1 : Int} : -(↑a0 : Int) ≤ (↑(a1 / (8 : Int) % (4 : Int)).toNat : Int) := by first | lia | omega
theorem ar141 {a0 : Int} : (↑(a0 / (8 : Int) % (4 : Int)).toNat : Int) < (4 : Int) := by first | lia | omega
theorem ar142 {a0 : Nat} {a1 : Prop} {a2 : Nat} (h0 : a0 ≤ (7 : Nat) ∧ a1) (h1 : a2 ≤ (2 : Nat) * a0) : a2 + (1 : Nat) ≤ (1000 : Nat) := by first | lia | omega
theorem ar143 {a0 : Nat} {a1 : Prop} {a2 : Nat} (h0 : a0 ≤ (7 : Nat) ∧ a1) (h1 : a2 ≤ (2 : Nat) * a0) : a2 + (1 : Nat) ≤ (31 : Nat) := by first | lia | omega
theorem ar144 {a0 : Nat} {a1 : Nat} {a2 : Nat} {a3 : Nat} {a4 : Nat} {a5 : Nat} {a6 : Nat} (h0 : a0 < (4 : Nat) + a1 % (2 : Nat)) (h1 : a2 < (3 : Nat)) (h2 : a3 = a2 + (1 : Nat)) (h3 : a4 ≤ (100 : Nat) * a0 + (31 : Nat) * a5) (h4 : a5 < a3) (h5 : a6 ≤ (31 : Nat)) : a4 + a6 ≤ (1000 : Nat) := by exact (Nat.le_trans (Nat.add_le_add (Nat.le_trans h3 (Nat.add_le_add (Nat.mul_le_mul (Nat.le_refl 100) (Nat.le_trans (Nat.le_of_lt h0) (Nat.add_le_add (Nat.le_refl 4) (Nat.le_of_lt_succ (Nat.mod_lt _ (by decide)))))) (Nat.mul_le_mul (Nat.le_refl 31) (Nat.le_trans (Nat.le_of_lt h4) (Nat.le_trans (Nat.le_of_eq h2) (Nat.add_le_add (Nat.le_of_lt_succ h1) (Nat.le_refl 1))))))) h5) (by decide))
theorem ar145 {a0 : Nat} {a1 : Nat} {a2 : Nat} {a3 : Nat} (h0 : a0 ≤ (100 : Nat) * a1 + (31 : Nat) * a2) (h1 : a3 ≤ (31 : Nat)) : a0 + a3 ≤ (100 : Nat) * a1 + (31 : Nat) * (a2 + (1 : Nat)) := by exact Nat.le_trans (Nat.add_le_add h0 h1) (Nat.le_of_eq (Nat.add_assoc _ _ _))
theorem ar146 {a0 : Nat} : (0 : Nat) < a0 + (1 : Nat) := by first | lia | omega
theorem ar147 {a0 : Nat} : (0 : Nat) < a0 + (1 : Nat) + (1 : Nat) := by first | lia | omega
theorem ar148 {a0 : Nat} : a0 + (1 : Nat) ≠ a0 + (1 : Nat) + (1 : Nat) := by first | lia | omega
theorem ar149 {a0 : Nat} {a1 : Prop} (h0 : a0 ≤ (7 : Nat) ∧ a1) : a0 ≤ (1000 : Nat) := by first | lia | omega
theorem ar150 {a0 : Nat} {a1 : Nat} (h0 : a0 + (1 : Nat) + (1 : Nat) + (1 : Nat) ≤ a1) : (0 : Nat) < a1 := by exact Nat.lt_of_lt_of_le (Nat.succ_pos _) h0
theorem ar151 {a0 : Nat} {a1 : Prop} {a2 : Nat} (h0 : a0 ≤ (7 : Nat) ∧ a1) (h1 : a2 ≤ (2 : Nat) * a0) : a2 ≤ (1000 : Nat) := by first | lia | omega
theorem ar152 {a0 : Nat} {a1 : Prop} {a2 : Nat} {a3 : Nat} (h0 : a0 ≤ (7 : Nat) ∧ a1) (h1 : a2 ≤ (2 : Nat) * a0) (h2 : a3 ≤ (2 : Nat) * a2) : (1 : Nat) + a3 ≤ (1000 : Nat) := by first | lia | omega
theorem ar153 {a0 : Nat} {a1 : Prop} {a2 : Nat} {a3 : Nat} (h0 : a0 ≤ (7 : Nat) ∧ a1) (h1 : a2 ≤ (2 : Nat) * a0) (h2 : a3 ≤ (2 : Nat) * a2) : (1 : Nat) + a3 + (1 : Nat) ≤ (1000 : Nat) := by first | lia | omega
theorem ar154 {a0 : Int} : (a0 / (8 : Int) % (4 : Int)).toNat < (1000000 : Nat) := by first | lia | omega
theorem ar155 {a0 : Nat} {a1 : Prop} {a2 : Nat} {a3 : Nat} (h0 : a0 ≤ (7 : Nat) ∧ a1) (h1 : a2 ≤ (4 : Nat) * a0 + (2 : Nat)) (h2 : a3 ≤ (1 : Nat)) : a2 + a3 ≤ (1000 : Nat) := by first | lia | omega
theorem ar156 {a0 : Nat} {a1 : Prop} {a2 : Nat} {a3 : Nat} (h0 : a0 ≤ (7 : Nat) ∧ a1) (h1 : a2 ≤ (4 : Nat) * a0 + (2 : Nat)) (h2 : a3 ≤ (1 : Nat)) : a2 + a3 ≤ (31 : Nat) := by first | lia | omega
theorem ar157 {a0 : Nat} {a1 : Nat} {a2 : Nat} {a3 : Nat} {a4 : Nat} {a5 : Nat} (h0 : a0 < (4 : Nat) + a1 % (2 : Nat)) (h1 : a2 ≤ (3 : Nat) * a0) (h2 : a3 = a2) (h3 : a4 < (3 : Nat)) (h4 : a5 = a4 + (1 : Nat)) : a3 + a5 ≤ (16777216 : Nat) := by exact (Nat.le_trans (Nat.add_le_add (Nat.le_trans (Nat.le_of_eq h2) (Nat.le_trans h1 (Nat.mul_le_mul (Nat.le_refl 3) (Nat.le_trans (Nat.le_of_lt h0) (Nat.add_le_add (Nat.le_refl 4) (Nat.le_of_lt_succ (Nat.mod_lt _ (by decide)))))))) (Nat.le_trans (Nat.le_of_eq h4) (Nat.add_le_add (Nat.le_of_lt_succ h3) (Nat.le_refl 1)))) (by decide))
theorem ar158 {a0 : Nat} {a1 : Nat} {a2 : Nat} {a3 : Nat} (h0 : a0 ≤ (3 : Nat) * a1) (h1 : a2 < (3 : Nat)) (h2 : a3 = a2 + (1 : Nat)) : a0 + a3 ≤ (3 : Nat) * (a1 + (1 : Nat)) := by first | lia | omega
theorem ar159 {a0 : Nat} {a1 : Nat} {a2 : Nat} {a3 : Nat} (h0 : a0 < (3 : Nat)) (h1 : a1 = a0 + (1 : Nat)) (h2 : a2 ≤ (100 : Nat) * a3 + (31 : Nat) * a1) : a2 ≤ (100 : Nat) * (a3 + (1 : Nat)) := by first | lia | omega
theorem ar160 {a0 : Nat} {a1 : Nat} {a2 : Nat} (h0 : a0 < a1) (h1 : min a1 a2 ≤ a0) : a2 ≤ a0 := by exact Nat.le_of_not_lt fun h => Nat.lt_irrefl _ (Nat.lt_of_le_of_lt (Nat.le_trans (Nat.le_of_eq rfl) h1) (Nat.lt_min.mpr ⟨h0, h⟩))
theorem ar161 {a0 : Nat} {a1 : Nat} : min a0 a1 - (0 : Nat) ≤ a0 := by exact Nat.min_le_left _ _
theorem ar162 {a0 : Nat} {a1 : Nat} {a2 : Nat} {a3 : Prop} (h0 : a0 ≤ a1) (h1 : a1 < a2) (h2 : a2 ≤ a0) : a3 := by first | lia | omega
theorem ar163 {a0 : Nat} {a1 : Nat} (h0 : a0 ≤ a1) (h1 : a1 ≤ a0) : a0 = a1 := by first | lia | omega
theorem ar164 {a0 : Nat} {a1 : Nat} {a2 : Nat} (h0 : a0 - a1 = a2 + (1 : Nat)) : a1 < a0 := by exact Nat.lt_of_sub_pos (h0 ▸ Nat.succ_pos _)
theorem ar165 {a0 : Nat} {a1 : Nat} {a2 : Nat} {a3 : Nat} (h0 : a0 ≤ a1) (h1 : a2 ≤ a3) : a0 + a2 ≤ a3 + a1 := by first | lia | omega
theorem ar166 {a0 : Nat} {a1 : Nat} {a2 : Nat} (h0 : a0 + a1 ≤ (1048576 : Nat)) (h1 : a2 ≤ a0) : a2 + a1 ≤ (1048576 : Nat) := by first | lia | omega
theorem ar167 {a0 : Nat} {a1 : Nat} (h0 : ¬a0 = a1) : (↑a0 : Int) ≠ (↑a1 : Int) := by first | lia | omega
theorem ar168 {a0 : Nat} (h0 : a0 < (100 : Nat)) : a0 < (2 : Nat) ^ (7 : Nat) := by first | lia | omega
theorem ar169 {a0 : Nat} {a1 : Nat} {a2 : Nat} (h0 : a0 ≤ (8 : Nat) * a1) (h1 : a2 ≤ (7 : Nat)) : a2 + (1 : Nat) + a0 ≤ (8 : Nat) * (a1 + (1 : Nat)) := by first | lia | omega
theorem ar170 {a0 : Nat} {a1 : Nat} (h0 : a0 < (10 : Nat)) (h1 : a1 ≤ (8 : Nat) * a0) : a1 ≤ (2 : Nat) ^ (20 : Nat) := by first | lia | omega
theorem ar171 {a0 : Nat} {a1 : Nat} {a2 : Nat} (h0 : a0 ≤ (5 : Nat)) (h1 : a1 < (60 : Nat)) (h2 : a2 = a0) : a1 + (1 : Nat) + a2 < (70 : Nat) := by exact (Nat.lt_of_le_of_lt (Nat.add_le_add (Nat.add_le_add (Nat.le_of_lt_succ h1) (Nat.le_refl 1)) (Nat.le_trans (Nat.le_of_eq h2) h0)) (by decide))
theorem ar172 {a0 : Nat} (h0 : a0 < (2 : Nat)) : a0 = (0 : Nat) ∨ a0 = (1 : Nat) := by first | lia | omega
theorem ar173 {a0 : Nat} : a0 + (1 : Nat) + (1 : Nat) + (1 : Nat) + (1 : Nat) ≠ a0 + (1 : Nat) + (1 : Nat) + (1 : Nat) := by first | lia | omega
theorem ar174 {a0 : Nat} {a1 : Nat} {a2 : Nat} {a3 : Nat} (h0 : a0 ≤ (5 : Nat)) (h1 : a1 = a0) (h2 : a2 = a3) (h3 : a3 = a1) : a2 < (64 : Nat) := by exact (Nat.lt_of_le_of_lt (Nat.le_trans (Nat.le_trans (Nat.le_trans (Nat.le_of_eq h2) (Nat.le_of_eq h3)) (Nat.le_of_eq h1)) h0) (by decide : 5 < 64))
theorem ar175 {a0 : Nat} {a1 : Nat} {a2 : Nat} {a3 : Nat} (h0 : a0 ≤ (5 : Nat)) (h1 : a1 = a0) (h2 : a2 = a3) (h3 : a3 = a1) : a2 ≤ (16777216 : Nat) := by exact (Nat.le_of_lt (Nat.lt_of_le_of_lt (Nat.le_trans (Nat.le_trans (Nat.le_trans (Nat.le_of_eq h2) (Nat.le_of_eq h3)) (Nat.le_of_eq h1)) h0) (by decide : 5 < 16777216)))
theorem ar176 {a0 : Nat} : a0 + (1 : Nat) + (1 : Nat) + (1 : Nat) ≠ a0 + (1 : Nat) + (1 : Nat) + (1 : Nat) + (1 : Nat) := by first | lia | omega
theorem ar177 {a0 : Nat} {a1 : Nat} {a2 : Nat} {a3 : Nat} {a4 : Nat} (h0 : a0 ≤ (5 : Nat)) (h1 : a1 = a0) (h2 : a2 = a0) (h3 : a3 = a2) (h4 : a4 = a1) : a4 + a3 ≤ (16777216 : Nat) := by exact (Nat.le_trans (Nat.add_le_add (Nat.le_trans (Nat.le_of_eq h4) (Nat.le_trans (Nat.le_of_eq h1) h0)) (Nat.le_trans (Nat.le_of_eq h3) (Nat.le_trans (Nat.le_of_eq h2) h0))) (by decide))
theorem ar178 {a0 : Nat} {a1 : Nat} {a2 : Nat} {a3 : Nat} {a4 : Nat} (h0 : a0 ≤ (5 : Nat)) (h1 : a1 = a0) (h2 : a2 = a0) (h3 : a3 = a4) (h4 : a4 = a1 + a2) : a3 < (64 : Nat) := by exact (Nat.lt_of_le_of_lt (Nat.le_trans (Nat.le_of_eq h3) (Nat.le_trans (Nat.le_of_eq h4) (Nat.add_le_add (Nat.le_trans (Nat.le_of_eq h1) h0) (Nat.le_trans (Nat.le_of_eq h2) h0)))) (by decide))
theorem ar179 {a0 : Nat} {a1 : Nat} {a2 : Nat} {a3 : Nat} {a4 : Nat} {a5 : Nat} (h0 : a0 ≤ (5 : Nat)) (h1 : a1 = a0) (h2 : a2 = a0) (h3 : a3 = a4) (h4 : a4 = a5) (h5 : a5 = a1 + a2) : a3 ≤ (16777216 : Nat) := by exact (Nat.le_trans (Nat.le_trans (Nat.le_of_eq h3) (Nat.le_trans (Nat.le_of_eq h4) (Nat.le_trans (Nat.le_of_eq h5) (Nat.add_le_add (Nat.le_trans (Nat.le_of_eq h1) h0) (Nat.le_trans (Nat.le_of_eq h2) h0))))) (by decide))
theorem ar180 {a0 : Nat} {a1 : Nat} {a2 : Nat} {a3 : Nat} (h0 : a0 ≤ (5 : Nat)) (h1 : a1 = a0) (h2 : a2 = a0) (h3 : a3 = a1 + a2) : a3 ≤ (10 : Nat) := by exact (Nat.le_trans (Nat.le_trans (Nat.le_of_eq h3) (Nat.add_le_add (Nat.le_trans (Nat.le_of_eq h1) h0) (Nat.le_trans (Nat.le_of_eq h2) h0))) (by decide))
theorem ar181 {a0 : Nat} (h0 : ¬(↑(63 : Nat) : Int) < (↑a0 : Int)) : a0 ≤ (63 : Nat) := by exact Nat.le_of_not_lt fun h => h0 (Int.ofNat_lt.mpr h)
theorem ar182 {a0 : Nat} {a1 : Nat} {a2 : Nat} (h0 : a0 ≤ (0 : Nat) + (93 : Nat) * min ((4 : Nat) + a1 % (2 : Nat)) a2) : a0 < (1000 : Nat) := by exact (Nat.lt_of_le_of_lt (Nat.le_trans h0 (Nat.add_le_add (Nat.le_refl 0) (Nat.mul_le_mul (Nat.le_refl 93) (Nat.le_trans (Nat.min_le_left _ _) (Nat.add_le_add (Nat.le_refl 4) (Nat.le_of_lt_succ (Nat.mod_lt _ (by decide)))))))) (by decide))
theorem ar183 {a0 : Nat} {a1 : Nat} (h0 : a0 + (1 : Nat) ≠ a1 ∧ a0 + (1 : Nat) + (1 : Nat) ≠ a1 ∧ a0 + (1 : Nat) + (1 : Nat) + (1 : Nat) ≠ a1 ∧ a0 + (1 : Nat) + (1 : Nat) + (1 : Nat) + (1 : Nat) ≠ a1 ∧ (106 : Nat) ≠ a1) : a1 ≠ (106 : Nat) := by first | lia | omega
theorem ar184 {a0 : Nat} (h0 : (106 : Nat) < a0) : a0 + (1 : Nat) + (1 : Nat) + (1 : Nat) + (1 : Nat) ≠ (106 : Nat) := by first | lia | omega
theorem ar185 {a0 : Nat} (h0 : (106 : Nat) < a0) : a0 + (1 : Nat) + (1 : Nat) + (1 : Nat) ≠ (106 : Nat) := by first | lia | omega
theorem ar186 {a0 : Nat} (h0 : (106 : Nat) < a0) : a0 + (1 : Nat) + (1 : Nat) ≠ (106 : Nat) := by first | lia | omega
theorem ar187 {a0 : Nat} {a1 : Nat} {a2 : Nat} (h0 : a0 ≤ (0 : Nat) + (3 : Nat) * min ((4 : Nat) + a1 % (2 : Nat)) a2) : a0 < (1000 : Nat) := by exact (Nat.lt_of_le_of_lt (Nat.le_trans h0 (Nat.add_le_add (Nat.le_refl 0) (Nat.mul_le_mul (Nat.le_refl 3) (Nat.le_trans (Nat.min_le_left _ _) (Nat.add_le_add (Nat.le_refl 4) (Nat.le_of_lt_succ (Nat.mod_lt _ (by decide)))))))) (by decide))
theorem ar188 {a0 : Nat} (h0 : a0 < (2 : Nat)) : (1 : Int) - (↑a0 : Int) = (↑((1 : Nat) - a0) : Int) := by exact (Int.ofNat_sub (Nat.le_of_lt_succ h0)).symm
theorem ar189 {a0 : Nat} {a1 : Nat} (h0 : a0 = (2 : Nat)) : (1 : Nat) - a1 < a0 := by exact h0 ▸ Nat.lt_of_le_of_lt (Nat.sub_le 1 a1) (by decide)
theorem ar190 {a0 : Nat} : (2 : Nat) - (a0 + (1 : Nat)) = (1 : Nat) - a0 := by first | lia | omega
theorem ar191 {a0 : Nat} : a0 + (1 : Nat) + (1 : Nat) + (1 : Nat) + (1 : Nat) ≠ a0 + (1 : Nat) + (1 : Nat) := by first | lia | omega
theorem ar192 {a0 : Nat} : a0 + (1 : Nat) + (1 : Nat) + (1 : Nat) ≠ a0 + (1 : Nat) + (1 : Nat) := by first | lia | omega
theorem ar193 {a0 : Nat} (h0 : (106 : Nat) < a0) : (106 : Nat) ≠ a0 + (1 : Nat) + (1 : Nat) := by first | lia | omega
theorem ar194 {a0 : Int} {a1 : Int} {a2 : Int} (h0 : a0 + a1 = (1 : Int) + a2) (h1 : a1 = (0 : Int)) : a0 = (1 : Int) + a2 := by first | lia | omega
theorem ar195 {a0 : Nat} {a1 : Nat} (h0 : a0 < (1000 : Nat)) (h1 : a1 = a0) : (↑a1 : Int) < (2 : Int) ^ (62 : Nat) := by first | lia | omega
theorem ar196 {a0 : Nat} {a1 : Nat} (h0 : a0 = a1) : (↑((↑a0 : Int) - (0 : Int)).toNat : Int) = (↑a1 : Int) := by exact h0 ▸ ar79
theorem ar197 {a0 : Nat} : a0 + (1 : Nat) ≠ a0 + (1 : Nat) + (1 : Nat) + (1 : Nat) := by first | lia | omega
theorem ar198 {a0 : Nat} : a0 + (1 : Nat) ≠ a0 + (1 : Nat) + (1 : Nat) + (1 : Nat) + (1 : Nat) := by first | lia | omega
theorem ar199 {a0 : Nat} {a1 : Nat} : min ((4 : Nat) + a0 % (2 : Nat)) a1 ≤ (5 : Nat) := by exact (Nat.le_trans (Nat.le_trans (Nat.min_le_left _ _) (Nat.add_le_add (Nat.le_refl 4) (Nat.le_of_lt_succ (Nat.mod_lt _ (by decide))))) (by decide))
theorem ar200 {a0 : Nat} (h0 : (0 : Nat) < a0) : a0 - (1 : Nat) < a0 := by exact Nat.sub_lt h0 (by decide)
theorem ar201 {a0 : Nat} {a1 : Nat} : a0 + (a1 + (1 : Nat)) = a0 + (1 : Nat) + a1 := by first | lia | omega
theorem ar202 {a0 : Nat} {a1 : Nat} : a0 < a0 + (1 : Nat) + a1 := by first | lia | omega
theorem ar203 {a0 : Nat} {a1 : Nat} (h0 : a0 ≤ a1 + (1 : Nat)) : a0 ≤ a1 + (1 : Nat) + (1 : Nat) := by first | lia | omega
theorem ar204 {a0 : Nat} {a1 : Nat} (h0 : a0 ≤ a1) : (↑a0 : Int) ≤ (↑a1 : Int) := by first | lia | omega
theorem ar205 {a0 : Nat} {a1 : Nat} : ((↑a0 : Int) - (↑a1 : Int)).toNat = a0 - a1 := by exact Int.toNat_sub _ _
theorem ar206 {a0 : Nat} (h0 : a0 < (1000 : Nat)) : ¬(↑a0 : Int) ≥ (2 : Int) ^ (63 : Nat) := by first | lia | omega
theorem ar207 {a0 : Nat} {a1 : Nat} (h0 : a0 + a1 ≤ (1001 : Nat)) : a0 ≤ (16777216 : Nat) := by exact Nat.le_trans (Nat.le_trans (Nat.le_add_right a0 a1) h0) (by decide)
theorem ar208 {a0 : Nat} {a1 : Nat} (h0 : a0 + (a1 + (1 : Nat)) ≤ (1001 : Nat)) : a0 + a1 ≤ (1001 : Nat) := by first | lia | omega
theorem ar209 {a0 : Nat} {a1 : Nat} {a2 : Nat} : min (a0 - a1) (a2 - a1) ≤ a2 := by exact Nat.le_trans (Nat.min_le_right _ _) (Nat.sub_le _ _)
theorem ar210 {a0 : Nat} {a1 : Nat} (h0 : a0 + (a1 + (1 : Nat)) ≤ (1001 : Nat)) : a0 + (1 : Nat) + a1 ≤ (1001 : Nat) := by exact Nat.add_right_comm a0 1 a1 ▸ h0
theorem ar211 {a0 : Nat} {a1 : Nat} (h0 : (↑a0 : Int) ≠ (↑a1 : Int)) : ¬a0 = a1 := by first | lia | omega
theorem ar212 {a0 : Nat} {a1 : Nat} {a2 : Nat} (h0 : (↑a0 : Int) < (↑a1 : Int)) (h1 : (↑a1 : Int) = (↑a2 : Int)) : a0 < a2 := by first | lia | omega
theorem ar213 {a0 : Nat} {a1 : Nat} {a2 : Nat} {a3 : Nat} (h0 : a0 < (1000 : Nat)) (h1 : a1 + a2 ≤ (1001 : Nat)) (h2 : a3 ≤ (1001 : Nat) * (999 : Nat)) : a3 + a0 + (a1 + (1 : Nat)) ≤ (1048576 : Nat) := by first | lia | omega
theorem ar214 {a0 : Nat} {a1 : Nat} {a2 : Nat} (h0 : ¬(↑a0 : Int) < (↑a1 : Int)) (h1 : (↑a1 : Int) = (↑a2 : Int)) : ¬a0 < a2 := by exact fun h => h0 (h1 ▸ Int.ofNat_lt.mpr h)
theorem ar215 {a0 : Nat} {a1 : Nat} {a2 : Nat} (h0 : a0 + a1 ≤ (1001 : Nat)) (h1 : a2 ≤ (1001 : Nat) * (999 : Nat)) : a2 + a0 ≤ (1048576 : Nat) := by first | lia | omega
theorem ar216 {a0 : Nat} {a1 : Nat} {a2 : Nat} (h0 : a0 ≤ a1) (h1 : a1 ≤ a2) : a0 ≤ a2 ∧ a2 < a2 + (1 : Nat) := by first | lia | omega
theorem ar217 {a0 : Nat} {a1 : Nat} {a2 : Nat} {a3 : Nat} {a4 : Nat} {a5 : Nat} (h0 : a0 ≤ a1) (h1 : a2 ≤ a3) (h2 : a3 < a0) (h3 : a4 ≤ a2) : a4 + min (a3 - a2) (a5 - a2) ≤ a1 + (1 : Nat) := by first | lia | omega
theorem ar218 {a0 : Nat} {a1 : Nat} {a2 : Nat} {a3 : Nat} (h0 : a0 ≤ a1) (h1 : a2 ≤ a3 ∧ a3 < a0) : a2 ≤ a3 ∧ a3 < a1 + (1 : Nat) := by first | lia | omega
theorem ar219 {a0 : Nat} {a1 : Nat} (h0 : a0 ≤ a1 + (1 : Nat)) (h1 : a1 < (1000 : Nat)) : (-1000 : Int) ≤ (0 : Int) - (↑a0 : Int) := by first | lia | omega
theorem ar220 {a0 : Nat} {a1 : Nat} (h0 : a0 ≤ a1 + (1 : Nat)) (h1 : a1 < (1000 : Nat)) : (0 : Int) + (↑a0 : Int) ≤ (1001 : Int) := by first | lia | omega
theorem ar221 {a0 : Int} {a1 : Nat} (h0 : (-1000 : Int) ≤ a0 - ((↑a1 : Int) + (1 : Int))) : (-1000 : Int) ≤ a0 + (1 : Int) - (↑a1 : Int) := by first | lia | omega
theorem ar222 {a0 : Int} {a1 : Nat} (h0 : a0 + ((↑a1 : Int) + (1 : Int)) ≤ (1001 : Int)) : a0 + (1 : Int) + (↑a1 : Int) ≤ (1001 : Int) := by first | lia | omega
theorem ar223 {a0 : Int} {a1 : Nat} (h0 : (-1000 : Int) ≤ a0 - ((↑a1 : Int) + (1 : Int))) : (-1000 : Int) ≤ a0 - (1 : Int) - (↑a1 : Int) := by first | lia | omega
theorem ar224 {a0 : Int} {a1 : Nat} (h0 : a0 + ((↑a1 : Int) + (1 : Int)) ≤ (1001 : Int)) : a0 - (1 : Int) + (↑a1 : Int) ≤ (1001 : Int) := by first | lia | omega
theorem ar225 {a0 : Int} {a1 : Nat} (h0 : (-1000 : Int) ≤ a0 - ((↑a1 : Int) + (1 : Int))) : (-1000 : Int) ≤ a0 - (↑a1 : Int) := by first | lia | omega
theorem ar226 {a0 : Int} {a1 : Nat} (h0 : a0 + ((↑a1 : Int) + (1 : Int)) ≤ (1001 : Int)) : a0 + (↑a1 : Int) ≤ (1001 : Int) := by first | lia | omega
theorem ar227 {a0 : Int} {a1 : Int} (h0 : a0 = a1) : a1 ≤ a0 := by first | lia | omega
theorem ar228 {a0 : Int} {a1 : Int} (h0 : a0 ≤ a1) (h1 : a1 ≤ a0) : a1 = a0 := by first | lia | omega
theorem ar229 {a0 : Nat} {a1 : Nat} {a2 : Prop} (h0 : a0 ≤ a1 ∧ a2) : (↑a0 : Int) ≤ (↑a1 : Int) := by first | lia | omega
theorem ar230 {a0 : Nat} {a1 : Nat} {a2 : Prop} {a3 : Nat} (h0 : a0 ≤ a1 ∧ a2) (h1 : (↑a1 : Int) ≤ (↑a3 : Int)) : (↑a0 : Int) ≤ (↑a3 : Int) := by first | lia | omega
theorem ar231 {a0 : Nat} (h0 : a0 < (3 : Nat)) : a0 = (0 : Nat) ∨ a0 = (1 : Nat) ∨ a0 = (2 : Nat) := by first | lia | omega
theorem ar232 {a0 : Nat} {a1 : Int} (h0 : (↑a0 : Int) = a1) : (↑(a0 + (1 : Nat)) : Int) = (1 : Int) + a1 := by first | lia | omega
theorem ar233 {a0 : Nat} {a1 : Int} (h0 : (↑a0 : Int) = a1) : (↑a0 : Int) = (0 : Int) + a1 := by first | lia | omega
theorem ar234 {a0 : Nat} {a1 : Nat} {a2 : Nat} (h0 : a0 ≤ (7 : Nat)) (h1 : a1 ≤ (4 : Nat) * a0 + (2 : Nat)) (h2 : a2 ≤ (1 : Nat)) : a1 + a2 ≤ (31 : Nat) := by exact (Nat.le_trans (Nat.add_le_add (Nat.le_trans h1 (Nat.add_le_add (Nat.mul_le_mul (Nat.le_refl 4) h0) (Nat.le_refl 2))) h2) (by decide))
theorem ar235 {a0 : Nat} {a1 : Nat} {a2 : Nat} (h0 : a0 ≤ (31 : Nat)) (h1 : a1 ≤ (31 : Nat) * a2) : a0 + a1 ≤ (31 : Nat) * (a2 + (1 : Nat)) := by exact Nat.le_trans (Nat.add_le_add h0 h1) (Nat.le_of_eq (Nat.add_comm _ _))
theorem ar236 {a0 : Nat} {a1 : Nat} {a2 : Nat} {a3 : Nat} {a4 : Nat} (h0 : a0 ≤ a1 + a2 + (93 : Nat) * a3) (h1 : a2 ≤ (31 : Nat) * a4) (h2 : a4 ≤ (3 : Nat)) : a0 ≤ a1 + (93 : Nat) * (a3 + (1 : Nat)) := by first | lia | omega
theorem ar237 {a0 : Nat} {a1 : Nat} {a2 : Nat} {a3 : Nat} (h0 : a0 ≤ a1 + a2 + (3 : Nat) * a3) (h1 : a2 ≤ (3 : Nat)) : a0 ≤ a1 + (3 : Nat) * (a3 + (1 : Nat)) := by first | lia | omega
theorem ar238 {a0 : Nat} {a1 : Nat} {a2 : Nat} (h0 : (1 : Nat) ≤ a0) (h1 : a0 ≤ a1 - a2) : a2 + a0 ≤ a1 := by first | lia | omega
theorem ar239 {a0 : Nat} {a1 : Nat} (h0 : a0 + (0 : Nat) = a1 + (1 : Nat)) : a1 ≤ a0 := by first | lia | omega
theorem ar240 {a0 : Nat} {a1 : Nat} {a2 : Nat} {a3 : Nat} {a4 : Nat} {a5 : Prop} (h0 : (1 : Nat) ≤ a0) (h1 : a1 = a2) (h2 : ((a3 < a2 + (1 : Nat) ∧ a4 ≤ a1) ∧ a1 + a0 ≤ a2) ∧ a5) : False := by first | lia | omega
theorem ar241 {a0 : Nat} {a1 : Nat} {a2 : Nat} (h0 : a0 + (a1 + (1 : Nat)) = a2 + (1 : Nat)) : a0 + (1 : Nat) + a1 = a2 + (1 : Nat) := by first | lia | omega
theorem ar242 {a0 : Nat} {a1 : Nat} {a2 : Nat} (h0 : a0 + (a1 + (1 : Nat)) = a2 + (1 : Nat)) (h1 : ¬a0 = a2) : a0 < a2 := by first | lia | omega
theorem ar243 {a0 : Nat} {a1 : Nat} {a2 : Nat} {a3 : Nat} (h0 : a0 + (a1 + (1 : Nat)) = a2 + (1 : Nat)) (h1 : a3 ≤ a0) : a3 < a2 + (1 : Nat) := by exact Nat.lt_of_le_of_lt h1 (h0 ▸ Nat.lt_add_of_pos_right (Nat.succ_pos _))
theorem ar244 {a0 : Nat} {a1 : Nat} : a0 + a1 - (a0 + (1 : Nat)) = a1 - (1 : Nat) := by exact Nat.add_sub_add_left a0 a1 1
theorem ar245 {a0 : Nat} {a1 : Nat} (h0 : ¬a0 ≤ a1) : a0 - a1 = a0 - a1 - (1 : Nat) + (1 : Nat) := by exact (Nat.sub_add_cancel (Nat.sub_pos_of_lt (Nat.lt_of_not_le h0))).symm
theorem ar246 {a0 : Nat} : (0 : Nat) + (a0 + (1 : Nat)) = a0 + (1 : Nat) := by first | lia | omega
theorem ar247 {a0 : Nat} {a1 : Nat} (h0 : a0 + (0 : Nat) = a1) : a1 ≤ a0 := by first | lia | omega
theorem ar248 {a0 : Nat} {a1 : Nat} {a2 : Nat} {a3 : Prop} (h0 : a0 + (0 : Nat) = a1) (h1 : a0 + a2 ≤ a1) (h2 : (1 : Nat) ≤ a2) : a3 := by first | lia | omega
theorem ar249 {a0 : Nat} {a1 : Nat} {a2 : Nat} (h0 : a0 + (0 : Nat) = a1) : a1 - a2 ≤ a0 - a2 := by first | lia | omega
theorem ar250 {a0 : Nat} (h0 : ¬a0 = (0 : Nat)) : (1 : Nat) ≤ a0 := by first | lia | omega
theorem ar251 {a0 : Nat} {a1 : Nat} {a2 : Nat} {a3 : Prop} (h0 : (1 : Nat) ≤ a0) (h1 : a1 + a0 ≤ a2 ∧ a3) : a1 + (1 : Nat) + (a0 - (1 : Nat)) ≤ a2 := by exact Nat.le_trans (Nat.le_of_eq ((Nat.add_assoc a1 1 (a0-1)).trans (congrArg _ (Nat.add_sub_cancel' h0)))) h1.1
theorem ar252 {a0 : Nat} {a1 : Nat} (h0 : (1 : Nat) ≤ a0) : a1 + (1 : Nat) + (a0 - (1 : Nat)) = a1 + a0 := by exact (Nat.add_assoc a1 1 (a0-1)).trans (congrArg _ (Nat.add_sub_cancel' h0))
theorem ar253 {a0 : Nat} {a1 : Nat} (h0 : a0 ≤ a1) : a1 + (1 : Nat) - a0 = a1 - a0 + (1 : Nat) := by exact Nat.succ_sub h0
theorem ar254 {a0 : Nat} {a1 : Nat} {a2 : Nat} {a3 : Nat} (h0 : a0 + (a1 + (1 : Nat)) = a2) (h1 : a3 ≤ a0) : a0 - a3 < a2 - a3 := by exact Nat.sub_lt_sub_right h1 (h0 ▸ Nat.lt_add_of_pos_right (Nat.succ_pos _))
theorem ar255 {a0 : Nat} {a1 : Nat} (h0 : a0 ≤ a1) : a0 + (a1 - a0) = a1 := by exact Nat.add_sub_cancel' h0
theorem ar256 {a0 : Nat} (h0 : (1 : Nat) ≤ a0) : a0 = a0 - (1 : Nat) + (1 : Nat) := by exact (Nat.sub_add_cancel h0).symm
theorem ar257 {a0 : Nat} {a1 : Nat} : a0 + (1 : Nat) + a1 = a0 + (a1 + (1 : Nat)) := by first | lia | omega
theorem ar258 {a0 : Nat} : (0 : Nat) + a0 = a0 := by first | lia | omega
theorem ar259 {a0 : Nat} {a1 : Prop} (h0 : (1 : Nat) ≤ a0) (h1 : a0 = (0 : Nat)) : a1 := by first | lia | omega
theorem ar260 {a0 : Nat} {a1 : Nat} {a2 : Nat} (h0 : min a0 a1 - a2 = (0 : Nat)) (h1 : a2 ≤ min a0 a1) : a2 = min a0 a1 := by exact Nat.le_antisymm h1 (Nat.le_of_sub_eq_zero h0)
theorem ar261 {a0 : Nat} {a1 : Nat} {a2 : Nat} (h0 : a0 = min a1 a2) (h1 : a1 ≤ a2) : a1 ≤ a0 := by first | lia | omega
theorem ar262 {a0 : Nat} {a1 : Nat} {a2 : Nat} (h0 : a0 = min a1 a2) (h1 : a2 ≤ a1) : a2 ≤ a0 := by exact h0 ▸ Nat.le_of_eq (Nat.min_eq_right h1).symm
theorem ar263 {a0 : Nat} {a1 : Nat} {a2 : Nat} (h0 : a0 ≤ min a1 a2) : min a0 (min a1 a2) = a0 := by first | lia | omega
theorem ar265 {a0 : Nat} {a1 : Nat} {a2 : Nat} {a3 : Nat} (h0 : min a0 a1 - a2 = a3 + (1 : Nat)) : a2 < a1 := by exact Nat.lt_of_lt_of_le (Nat.lt_of_sub_pos (show 0 < min a0 a1 - a2 from h0 ▸ Nat.succ_pos _)) (Nat.min_le_right _ _)
theorem ar266 {a0 : Nat} {a1 : Nat} {a2 : Nat} {a3 : Nat} (h0 : min a0 a1 - a2 = a3 + (1 : Nat)) : min a0 a1 - (a2 + (1 : Nat)) = a3 := by exact ar61 h0
theorem ar267 {a0 : Nat} {a1 : Nat} {a2 : Nat} {a3 : Nat} (h0 : min a0 a1 - a2 = a3 + (1 : Nat)) : a2 + (1 : Nat) ≤ min a0 a1 := by exact Nat.lt_of_sub_pos (h0 ▸ Nat.succ_pos _)
theorem ar268 {a0 : Nat} {a1 : Nat} {a2 : Nat} {a3 : Nat} {a4 : Nat} (h0 : a0 < (1000 : Nat)) (h1 : min a0 a1 - a2 = a3 + (1 : Nat)) (h2 : a4 = a2) : a4 ≤ (16777216 : Nat) := by exact h2 ▸ Nat.le_trans (Nat.le_of_lt (Nat.lt_trans (ar264 h1) h0)) (by decide)
theorem ar269 {a0 : Nat} {a1 : Nat} {a2 : Nat} {a3 : Nat} {a4 : Nat} (h0 : a0 < (1000 : Nat)) (h1 : min a0 a1 - a2 = a3 + (1 : Nat)) (h2 : a4 = a2) : a4 + (1 : Nat) ≤ (16777216 : Nat) + (1 : Nat) := by exact h2 ▸ Nat.le_trans (Nat.succ_le_of_lt (Nat.lt_trans (ar264 h1) h0)) (by decide)
-- Base
-- Base

noncomputable abbrev PR : Program := rw_sc0052_01.row.prog
abbrev NoE : Value → Shared → Prop := fun _ _ => False
/-- all objects but those at the addresses stay as they are -/
def But (as : List Addr) (h h' : Heap) : Prop := ∀ b o, b ∉ as → h.get? b = some o → h'.get? b = some o
theorem But.refl (as : List Addr) (h : Heap) : But as h h := fun _ _ _ e => e
theorem But.trans {as : List Addr} {h h' h'' : Heap} (k : But as h h') (k' : But as h' h'') : But as h h'' := fun b o n e => k' b o n (k b o n e)
theorem But.mono {as bs : List Addr} {h h' : Heap} (k : But as h h') (hs : ∀ a ∈ as, a ∈ bs) : But bs h h' := fun b o n e => k b o (fun q => n (hs b q)) e
theorem But.nil {h h' : Heap} (k : But [] h h') : h.StaysIn h' := fun b o e => k b o (fun q => nomatch q) e
theorem But.of {as : List Addr} {h h' : Heap} (k : h.StaysIn h') : But as h h' := fun b o _ e => k b o e

noncomputable abbrev AA (dp un : Nat) (fr : Option (List Env)) (gd : Option (List Code)) : Around := ⟨none, dp, fr, gd, un⟩
/-- a loop's turn is done: the walk stops here -/
def Lp (P : Prop) : Prop := P
inductive WhileE (I : Nat → Shared → Prop) (n : Nat) (s₃ : Shared) : Prop
  | mk (m : Nat) (h : m < n) (hI : I m s₃)

section
variable {prog : Program} {w : World} {A : Around} {s : Shared} {K : Frag} {p : Program} {loose : List Str} {mg mb : Str → Option Value} {Q : Value → Shared → Prop} {h₀ : Heap}
    {name qual : Str} {params : Arguments} {body : List Stmt} {scope : Scope} {dV kV doc pm cdv ct oc : Value} {an od : Option Addr} {osl : Array (Option Value)} {f : Addr} {args : List Value} {kw : List (Str × Value)} {binds : List (Str × Value)}

theorem wp_loadR {α : Type} {M : Model} {A : Around} {E : Value → Shared → Prop} {s : Shared} {a : Addr} {part : Option Value} {k : Obj → Sem α} {o : Obj} {Q : α → Shared → Prop}
    (ho : s.heap.get? a = some o) (h : wpAny M A (k o) Q E s) : wpAny M A (Sem.load a part k) Q E s :=
  wpAny_bind (m := loadPart a part) (f := k) (wpAny_loadPart ho h)
theorem wp_pureR {α : Type} {M : Model} {A : Around} {E : Value → Shared → Prop} {s : Shared} {a : α} {Q : α → Shared → Prop} (h : Q a s) : wpAny M A (Sem.pure a) Q E s := wpAny_pure h

/-- entering a plain def: what is not muts is frozen -/
theorem enterM (muts : List (Addr × Obj)) (k₀ : h₀.StaysIn s.heap) (X : K.In h₀) (T : TopRead p loose mg mb h₀) (hm : ∀ q ∈ muts, s.heap.get? q.1 = some q.2 ∧ h₀.get? q.1 = none)
    (ho : K.lookup f = some ⟨oc, od, .func (fnOf name qual params body scope dV kV doc pm an cdv ct), osl⟩) (hcd : codeIn K cdv qual = true) (hroom : A.depth < recursionLimit)
    (hbind : BindsTo s (fnOf name qual params body scope dV kV doc pm an cdv ct) ⟨args, kw⟩ binds) (hloc : ∀ y ∈ binds, scope.names.lookup y.1 = some .local)
    (h : ∀ g L h₁, h₀.StaysIn g → But (muts.map (·.1)) s.heap g → (∀ b o, g.get? b = some o → s.heap.get? b = some o) → Fr g L h₁ (fun y => binds.reverse.lookup y) → News g L h₁ muts → K.In g → TopRead p loose mg mb g →
      wpAny (model prog w) (A.deeper (envOf qual scope L f cdv)) (execs body (envOf qual scope L f cdv))
        (fun fl s' => Q (match fl with | .ret v => v | _ => .none) s') NoE
        { s with heap := h₁, toks := s.toks + binds.length })
    (hco : scope.isCoroutine = false := by rfl) (hgen : scope.isGenerator = false := by rfl) (hk : scope.kind = .function := by rfl)
    (hcell : ∀ x ∈ scope.names, x.2 ≠ .cell := by decide) : wpAny (model prog w) A (call (.ref f) args kw) Q NoE s := by
  have st : h₀.StaysIn (hideAll s.heap (muts.map (·.1))) := fun b o e => hideAll_get _ (k₀ b o e) fun q => by
    obtain ⟨p, hp, rfl⟩ := List.mem_map.mp q
    rw [(hm p hp).2] at e; cases e
  refine wpAny_call ?_
  refine codeAny_call_def (fd := fnOf name qual params body scope dV kV doc pm an cdv ct) (body := body) (binds := binds) hroom (k₀ _ _ (X _ _ ho)) rfl (T.keeps k₀).nolimit (codeRec_of (X.keeps k₀) hcd) rfl hbind hcell hloc (fun h₁ hns hk₁ => ?_) hco hgen hk
  refine wpAny_mono (h _ s.heap.objs.size h₁ st (fun b o n e => hideAll_get _ e n) (fun b o e => of_hideAll _ e) ⟨hns, fun b o e => hk₁ b o (of_hideAll _ e), Nat.le_of_eq (hideAll_size _ _)⟩
    (fun q hq => ⟨hk₁ _ _ (hm q hq).1, Nat.ne_of_lt (Heap.lt_size (hm q hq).1), hideAll_none _ (List.mem_map_of_mem hq)⟩) (X.keeps st) (T.keeps st)) (fun fl s' hq => ?_) (fun _ _ e => e.elim)
  cases fl <;> exact hq

/-- entering a def with cells -/
theorem enterC (muts : List (Addr × Obj)) (k₀ : h₀.StaysIn s.heap) (X : K.In h₀) (T : TopRead p loose mg mb h₀) (hm : ∀ q ∈ muts, s.heap.get? q.1 = some q.2 ∧ h₀.get? q.1 = none)
    (ho : K.lookup f = some ⟨oc, od, .func (fnOf name qual params body scope dV kV doc pm an cdv ct), osl⟩) (hcd : codeIn K cdv qual = true) (hroom : A.depth < recursionLimit)
    (hbind : BindsTo s (fnOf name qual params body scope dV kV doc pm an cdv ct) ⟨args, kw⟩ binds)
    (hkind : (binds.all fun y => scope.names.lookup y.1 == some .local || scope.names.lookup y.1 == some .cell) = true)
    (hnd : ((cellsFrom 0 scope.names []).map (·.1)).Nodup)
    (h : ∀ g L h₁ tk cells, h₀.StaysIn g → But (muts.map (·.1)) s.heap g → (∀ b o, g.get? b = some o → s.heap.get? b = some o) → Fr g L h₁ (bindL (envOfC qual scope L f cdv).kindOf binds fun _ => none) → News g L h₁ (cells ++ muts) →
      CellsAre (bindC (envOfC qual scope L f cdv).kindOf binds fun _ => none) (cellsFrom (L + 1) scope.names []) cells → K.In g → TopRead p loose mg mb g → (∀ q ∈ muts, q.1 < L) →
      wpAny (model prog w) (A.deeper (envOfC qual scope L f cdv)) (execs body (envOfC qual scope L f cdv))
        (fun fl s' => Q (match fl with | .ret v => v | _ => .none) s') NoE
        { s with heap := h₁, toks := tk })
    (hco : scope.isCoroutine = false := by rfl) (hgen : scope.isGenerator = false := by rfl) (hk : scope.kind = .function := by rfl) : wpAny (model prog w) A (call (.ref f) args kw) Q NoE s := by
  have st : h₀.StaysIn (hideAll s.heap (muts.map (·.1))) := fun b o e => hideAll_get _ (k₀ b o e) fun q => by
    obtain ⟨p, hp, rfl⟩ := List.mem_map.mp q
    rw [(hm p hp).2] at e; cases e
  refine wpAny_call ?_
  refine codeAny_call_function hroom (k₀ _ _ (X _ _ ho)) rfl hco hgen rfl (codeRec_of (X.keeps k₀) hcd) (hbind _ _ _ _ ?_)
  refine wpAny_newFunctionEnv_cells hk (kindsX hkind _) fun env' he s' x => ?_
  subst he
  refine ⟨((T.keeps k₀).nolimit).keeps x.toInCall.keep, codeAny_func ?_⟩
  obtain ⟨h₁, tk, rfl, _⟩ := x.done
  have hk₁ := x.toInCall.keep
  obtain ⟨cells, NC, Y⟩ := Cl.news (h₀ := s.heap) (Nat.le_refl _) fun n c hm => ⟨x.cell n c (lookup_of_mem_nodup (cellsFrom_names scope.names 0 (s.heap.objs.size + 1) [] [] rfl ▸ hnd) hm), x.above n c hm⟩
  refine wpAny_mono (h _ s.heap.objs.size h₁ tk cells st (fun b o n e => hideAll_get _ e n) (fun b o e => of_hideAll _ e) ⟨x.toInCall.ns, fun b o e => hk₁ b o (of_hideAll _ e), Nat.le_of_eq (hideAll_size _ _)⟩ (fun q hq => ?_) Y (X.keeps st) (T.keeps st) (fun q hq => Heap.lt_size (hm q hq).1)) (fun fl s' hq => ?_) (fun _ _ e => e.elim)
  · rcases List.mem_append.mp hq with hq | hq
    · refine ⟨(NC q hq).1, (NC q hq).2.1, ?_⟩
      cases e : (hideAll s.heap (muts.map (·.1))).get? q.1 with
      | none => rfl
      | some o => have := of_hideAll _ e; rw [(NC q hq).2.2] at this; cases this
    · exact ⟨hk₁ _ _ (hm q hq).1, Nat.ne_of_lt (Heap.lt_size (hm q hq).1), hideAll_none _ (List.mem_map_of_mem hq)⟩
  · cases fl <;> exact hq
end

/-- what follows a statement in a block -/
def SeqK (M : Model) (A : Around) (rest : List Stmt) (env : Env) (Q : Flow → Shared → Prop) (E : Value → Shared → Prop) : Flow → Shared → Prop := fun f s' => match f with | .next => wpAny M A (execs rest env) Q E s' | f => Q f s'
/-- what follows a turn of a loop -/
def BodyK (J : Shared → Prop) (Q : Flow → Shared → Prop) : Flow → Shared → Prop := fun f s' => match f with
  | .next | .cont => Lp (J s')
  | .brk => Q .next s'
  | .ret v => Q (.ret v) s'
structure LpK (X J : Shared → Prop) : Prop where
  h : ∀ s, X s → J s
section
variable {M : Model} {A : Around} {env : Env} {st : Stmt} {rest : List Stmt} {Q : Flow → Shared → Prop} {E : Value → Shared → Prop} {s : Shared} {v : Value} {J X : Shared → Prop}
theorem LpK.use (k : LpK X J) (h : Lp (X s)) : Lp (J s) := k.h s h
theorem SeqK.nx (h : wpAny M A (execs rest env) Q E s) : SeqK M A rest env Q E .next s := h
theorem SeqK.rt (h : Q (.ret v) s) : SeqK M A rest env Q E (.ret v) s := h
theorem SeqK.bk (h : Q .brk s) : SeqK M A rest env Q E .brk s := h
theorem SeqK.ct (h : Q .cont s) : SeqK M A rest env Q E .cont s := h
theorem BodyK.nx (h : Lp (J s)) : BodyK J Q .next s := h
theorem BodyK.ct (h : Lp (J s)) : BodyK J Q .cont s := h
theorem BodyK.bk (h : Q .next s) : BodyK J Q .brk s := h
theorem BodyK.rt (h : Q (.ret v) s) : BodyK J Q (.ret v) s := h
theorem execs_k (h : wpAny M A (exec st env) (SeqK M A rest env Q E) E s) : wpAny M A (execs (st :: rest) env) Q E s := wpAny_execs_cons h
theorem execs_last (h : wpAny M A (exec st env) Q E s) : wpAny M A (execs [st] env) Q E s :=
  wpAny_execs_cons (wpAny_mono h (fun f _ hf => by cases f with | next => exact wpAny_execs_nil hf | _ => exact hf) fun _ _ e => e)
end

section
variable {prog : Program} {w : World} {A : Around} {s : Shared} {env : Env}

theorem while_own {test : Expr} {body : List Stmt} {pos : Pos} {Q : Flow → Shared → Prop} (I : Nat → Shared → Prop) (n : Nat) (h : I n s)
    (turn : ∀ n s, I n s → ∀ J : Shared → Prop, LpK (WhileE I n) J → wpAny (model prog w) A (isTrue test env (eval test env)) (fun b s₂ =>
      if b = true then wpAny (model prog w) A (execs body env) (BodyK J Q) NoE s₂
      else Q .next s₂) NoE s) :
    wpAny (model prog w) A (exec (.While test body [] pos) env) Q NoE s := by
  refine wpAny_While (codeAny_whileLoop I (fun n s' hI => ?_) n h)
  refine wpAny_mono (turn n s' hI (WhileE I n) ⟨fun _ h => h⟩) (fun b s₂ h₂ => ?_) (fun _ _ e => e.elim)
  cases b with
  | false =>
    simp only [Bool.false_eq_true, if_false] at h₂ ⊢
    exact wpAny_execs_nil h₂
  | true =>
    simp only [if_true] at h₂ ⊢
    refine wpAny_mono h₂ (fun f s₃ h₃ => ?_) (fun _ _ e => e.elim)
    cases f with
    | next => exact (match (h₃ : WhileE I n _) with | .mk m a b => ⟨m, a, b⟩)
    | cont => exact (match (h₃ : WhileE I n _) with | .mk m a b => ⟨m, a, b⟩)
    | brk => exact h₃
    | ret v => exact h₃

/-- a for loop over the iterator it, any invariant -/
theorem for_own {target : Expr} {it : Value} {body : List Stmt} {Q : Flow → Shared → Prop} {R : Result → Shared → Prop} (I : Nat → Shared → Prop) (n : Nat) (h : I n s)
    (hR : ∀ f s', Q f s' → R (.ok f) s')
    (turn : ∀ n s, I n s → ∀ J : Shared → Prop, LpK (WhileE I n) J → wpAny (model prog w) A (pyNext it) (fun r s₁ => match r with
      | none => Q .next s₁
      | some v => wpAny (model prog w) A (letOwnedTupleGo target it v) (fun _ s₁' =>
          wpAny (model prog w) A (assign target env v) (fun _ s₂ => wpAny (model prog w) A (execs body env) (BodyK J Q) NoE s₂) NoE s₁') NoE s₁) NoE s) :
    codeAny (model prog w) A (.forLoop target it body [] env) R s := by
  refine codeAny_forLoop_any I (fun n s' hI => ?_) n h
  refine wpAny_mono (turn n s' hI (WhileE I n) ⟨fun _ h => h⟩) (fun r s₁ h₁ => ?_) (fun _ _ e => e.elim)
  cases r with
  | none => exact wpAny_execs_nil (hR _ _ h₁)
  | some v =>
    refine wpAny_mono h₁ (fun _ s₂ h₂ => ?_) (fun _ _ e => e.elim)
    refine wpAny_mono h₂ (fun _ s₃ h₃ => ?_) (fun _ _ e => e.elim)
    refine wpAny_mono h₃ (fun f s₄ h₄ => ?_) (fun _ _ e => e.elim)
    cases f with
    | next => exact (match (h₄ : WhileE I n _) with | .mk m a b => ⟨m, a, b⟩)
    | cont => exact (match (h₄ : WhileE I n _) with | .mk m a b => ⟨m, a, b⟩)
    | brk => exact hR _ _ h₄
    | ret v => exact hR _ _ h₄

/-- a turn of a for loop is done: the ledger has the same addresses -/
inductive TurnA (g : Heap) (L : Addr) (gn : Array GenState) (dr : Drawn) (os : OsState) (ot news₁ : List (Addr × Obj)) (P : (Str → Option Value) → List (Addr × Obj) → Prop) (s₃ : Shared) : Prop
  | mk (h' : Heap) (tk' : Nat) (gs' : Array GenState) (m' : Str → Option Value) (news' : List (Addr × Obj)) (e : s₃ = ⟨h', gs', dr, tk', os⟩) (hb : AllBare gn → AllBare gs') (F : Fr g L h' m') (N : News g L h' (news' ++ ot))
    (hm : news'.map (·.1) = news₁.map (·.1)) (hJ : P m' news')
/-- a turn of a for loop is done: the ledger may have grown -/
inductive TurnB (g : Heap) (L : Addr) (gn : Array GenState) (dr : Drawn) (os : OsState) (ot news₁ : List (Addr × Obj)) (P : (Str → Option Value) → List (Addr × Obj) → Prop) (s₃ : Shared) : Prop
  | mk (h' : Heap) (tk' : Nat) (gs' : Array GenState) (m' : Str → Option Value) (news' : List (Addr × Obj)) (e : s₃ = ⟨h', gs', dr, tk', os⟩) (hb : AllBare gn → AllBare gs') (F : Fr g L h' m') (N : News g L h' (news' ++ ot))
    (hm : ∀ q ∈ news', q.1 ∈ news₁.map (·.1) ∨ ∀ r ∈ ot, r.1 ≠ q.1) (hJ : P m' news')
/-- a turn of a for loop over a generator is done -/
inductive TurnG (g : Heap) (L : Addr) (gs₁ : Array GenState) (dr : Drawn) (os : OsState) (ot news₁ : List (Addr × Obj)) (P : (Str → Option Value) → List (Addr × Obj) → Prop) (s₃ : Shared) : Prop
  | mk (h' : Heap) (tk' : Nat) (m' : Str → Option Value) (news' : List (Addr × Obj)) (e : s₃ = ⟨h', gs₁, dr, tk', os⟩) (F : Fr g L h' m') (N : News g L h' (news' ++ ot)) (hm : news'.map (·.1) = news₁.map (·.1)) (hJ : P m' news')

theorem fr_stays {h₀ h h' : Heap} {L : Addr} {m : Str → Option Value} (F : Fr h₀ L h m) (k : h.StaysIn h') : Fr h₀ L h' m :=
  ⟨F.ns.keeps k, fun b o e => k b o (F.keep b o e), F.above⟩
theorem news_stays {h₀ h h' : Heap} {L : Addr} {news : List (Addr × Obj)} (N : News h₀ L h news) (k : h.StaysIn h') : News h₀ L h' news :=
  fun p hp => ⟨k _ _ (N p hp).1, (N p hp).2.1, (N p hp).2.2⟩
theorem fr_but {h₀ h h' : Heap} {L : Addr} {m : Str → Option Value} {as : List Addr} (F : Fr h₀ L h m) (k : But as h h') (hL : L ∉ as) (h0 : ∀ a ∈ as, h₀.get? a = none) : Fr h₀ L h' m := by
  obtain ⟨oL, es, ep, hLg, r⟩ := F.ns
  refine ⟨⟨oL, es, ep, k _ _ hL hLg, r⟩, fun b o e => k b o (fun q => ?_) (F.keep b o e), F.above⟩
  rw [h0 b q] at e; cases e
theorem fr_but1 {h₀ h h' : Heap} {L a : Addr} {o : Obj} {m : Str → Option Value} {news : List (Addr × Obj)} (F : Fr h₀ L h m) (N : News h₀ L h news) (hm : (a, o) ∈ news) (k : But [a] h h') : Fr h₀ L h' m :=
  fr_but F k (fun q => by cases q with | head => exact (N _ hm).2.1 rfl | tail _ q => cases q) (fun b q => by cases q with | head => exact (N _ hm).2.2 | tail _ q => cases q)
theorem news_but1 {h₀ h h' : Heap} {L a : Addr} {o o' : Obj} {news news' : List (Addr × Obj)} (N : News h₀ L h news) (U : Upd a o o' news news') (k : But [a] h h') (ho : h'.get? a = some o') : News h₀ L h' news' := by
  obtain ⟨pre, post, rfl, rfl, h1, h2⟩ := U.split
  intro q hq
  have ne : ∀ q : Addr × Obj, q.1 ≠ a → q.1 ∉ [a] := fun q n m => by cases m with | head => exact n rfl | tail _ m => cases m
  rcases List.mem_append.mp hq with hq | hq
  · have z := N q (List.mem_append_left _ hq)
    exact ⟨k _ _ (ne q (h1 q hq)) z.1, z.2⟩
  · rcases List.mem_cons.mp hq with rfl | hq
    · have z := N (a, o) (List.mem_append_right _ (.head _))
      exact ⟨ho, z.2⟩
    · have z := N q (List.mem_append_right _ (.tail _ hq))
      exact ⟨k _ _ (ne q (h2 q hq)) z.1, z.2⟩
end

@[elab_as_elim] theorem memc {α : Type} {a : α} {l : List α} {motive : α → Prop} {q : α} (h : q ∈ a :: l) (h0 : motive a) (h1 : ∀ q ∈ l, motive q) : motive q := List.forall_mem_cons.mpr ⟨h0, h1⟩ q h
theorem at0 {α : Type} {a : α} {l : List α} : a ∈ a :: l := .head _
theorem at1 {α : Type} {a b : α} {l : List α} : b ∈ a :: b :: l := .tail _ (.head _)
theorem at2 {α : Type} {a b c : α} {l : List α} : c ∈ a :: b :: c :: l := .tail _ (.tail _ (.head _))
theorem at3 {α : Type} {a b c d : α} {l : List α} : d ∈ a :: b :: c :: d :: l := .tail _ (.tail _ (.tail _ (.head _)))
theorem at4 {α : Type} {a b c d e : α} {l : List α} : e ∈ a :: b :: c :: d :: e :: l := .tail _ (.tail _ (.tail _ (.tail _ (.head _))))
theorem at5 {α : Type} {a b c d e f : α} {l : List α} : f ∈ a :: b :: c :: d :: e :: f :: l := .tail _ (.tail _ (.tail _ (.tail _ (.tail _ (.head _)))))
theorem at6 {α : Type} {a b c d e f g : α} {l : List α} : g ∈ a :: b :: c :: d :: e :: f :: g :: l := .tail _ (.tail _ (.tail _ (.tail _ (.tail _ (.tail _ (.head _))))))
theorem at7 {α : Type} {a b c d e f g h : α} {l : List α} : h ∈ a :: b :: c :: d :: e :: f :: g :: h :: l := .tail _ (.tail _ (.tail _ (.tail _ (.tail _ (.tail _ (.tail _ (.head _)))))))
theorem at8 {α : Type} {a b c d e f g h i : α} {l : List α} : i ∈ a :: b :: c :: d :: e :: f :: g :: h :: i :: l := .tail _ (.tail _ (.tail _ (.tail _ (.tail _ (.tail _ (.tail _ (.tail _ (.head _))))))))
theorem at9 {α : Type} {a b c d e f g h i j : α} {l : List α} : j ∈ a :: b :: c :: d :: e :: f :: g :: h :: i :: j :: l := .tail _ (.tail _ (.tail _ (.tail _ (.tail _ (.tail _ (.tail _ (.tail _ (.tail _ (.head _)))))))))
theorem gd0 {x0 x1 x2 x3 x4 x5 x6 x7 x8 x9 x10 x11} (h : wpAny x0 x1 (eval (Expr.Name x2 x3) (envOf x4 x5 x6 x7 x8)) x9 x10 x11) : wpAny x0 x1 (eval (Expr.Name x2 x3) (envOf x4 x5 x6 x7 x8)) x9 x10 x11 := h
theorem gd1 {x0 x1 x2 x3 x4 x5 x6 x7 x8 x9 x10} (h : wpAny x0 x1 (loadName (envOf x2 x3 x4 x5 x6) x7) x8 x9 x10) : wpAny x0 x1 (loadName (envOf x2 x3 x4 x5 x6) x7) x8 x9 x10 := h
theorem gd2 {x0 x1 x2 x3 x4 x5 x6 x7 x8 x9 x10} (h : wpAny x0 x1 (loadName (envOfC x2 x3 x4 x5 x6) x7) x8 x9 x10) : wpAny x0 x1 (loadName (envOfC x2 x3 x4 x5 x6) x7) x8 x9 x10 := h
theorem gd3 {x0 x1 x2 x3 x4 x5 x6 x7 x8 x9 x10 x11} (h : wpAny x0 x1 (eval (Expr.Name x2 x3) (envOfC x4 x5 x6 x7 x8)) x9 x10 x11) : wpAny x0 x1 (eval (Expr.Name x2 x3) (envOfC x4 x5 x6 x7 x8)) x9 x10 x11 := h
theorem gd4 {x0 x1 x2 x3 x4 x5 x6 x7 x8 x9 x10 x11 x12} (h : wpAny x0 x1 (eval (Expr.Name x2 x3) (envX x4 x5 x6 x7 x8 x9)) x10 x11 x12) : wpAny x0 x1 (eval (Expr.Name x2 x3) (envX x4 x5 x6 x7 x8 x9)) x10 x11 x12 := h
theorem gd5 {x0 x1 x2 x3 x4 x5 x6} (h : wpAny x0 x1 (execs x2 x3) x4 x5 x6) : wpAny x0 x1 (execs x2 x3) x4 x5 x6 := h
theorem byG {P : Prop} (h : ∀ G : Prop, (P → G) → G) : P := h P id
local macro_rules | `(tactic| walk_at "eval Name") => `(tactic| (k_here; (fail_if_success fail_if_success with_reducible refine gd0 ?_); k_dflt (refine' ld ?k1 ?k2 ?_; (case k1 => k_asm); (case k2 => assumption); k_whole)))
local macro_rules | `(tactic| walk_at "call builtin:len") => `(tactic| (k_here; k_dflt (refine' len_list (stays_list (Fr.keep (by k_asm)) (by assumption)) ?k2 ?_; (case k2 => simp only [List.size_toArray]; omega); k_whole)))
local macro_rules | `(tactic| size_fits) => `(tactic| first | with_reducible assumption | (simp only [List.size_toArray]; with_reducible assumption))
local macro_rules | `(tactic| walk_at "loadName") => `(tactic| (k_here; (fail_if_success fail_if_success with_reducible first | refine gd1 ?_ | refine gd2 ?_); k_dflt (refine' ldn ?k1 ?k2 ?_; (case k1 => k_asm); (case k2 => assumption); k_whole)))
local macro_rules | `(tactic| walk_at "eval Name") => `(tactic| (k_here; (fail_if_success fail_if_success with_reducible first | refine gd3 ?_ | refine gd4 ?_); k_dflt (refine' nameX_L ?F ?v ?_ ?a ?b; (case F => k_asm); (case a => rfl); (case b => rfl); (case v => assumption); k_whole)))
local macro_rules | `(tactic| k_in) => `(tactic| exact Frag.In.keeps (by k_asm) (Fr.keep (by k_asm)))
local macro_rules | `(tactic| k_all) => `(tactic| with_reducible assumption)
local macro_rules | `(tactic| k_ne) => `(tactic| (refine neN ?_; (try dsimp only); first | exact Nat.ne_of_lt (by with_reducible assumption) | exact Nat.ne_of_gt (by with_reducible assumption) | omega))
theorem stbase_0 {x0} (h : Lp x0) : Lp x0 := h
theorem stbase_1 {x0 x1 x2 x3 x4 x5 x6 x7 x8 x9} (h : wpAny x0 x1 (exec (Stmt.While x2 x3 x4 x5) x6) x7 x8 x9) : wpAny x0 x1 (exec (Stmt.While x2 x3 x4 x5) x6) x7 x8 x9 := h
theorem stbase_2 {x0 x1 x2 x3 x4 x5 x6 x7 x8 x9 x10} (h : wpAny x0 x1 (exec (Stmt.For x2 x3 x4 x5 x6) x7) x8 x9 x10) : wpAny x0 x1 (exec (Stmt.For x2 x3 x4 x5 x6) x7) x8 x9 x10 := h
local macro_rules | `(tactic| walk_at "mine stop") => `(tactic| with_reducible first | refine stbase_0 ?_ | refine stbase_1 ?_ | refine stbase_2 ?_)
local macro_rules | `(tactic| walk_at "execs cons") => `(tactic| (k_here; (fail_if_success k_gentoks); with_reducible first | refine execs_last ?_ | refine execs_k ?_))
local macro_rules | `(tactic| walk_at "mine step") => `(tactic| with_reducible first | refine SeqK.nx ?_ | refine SeqK.rt ?_ | refine BodyK.nx ?_ | refine BodyK.rt ?_ | refine SeqK.bk ?_ | refine SeqK.ct ?_ | refine BodyK.bk ?_ | refine BodyK.ct ?_ | (refine' LpK.use ?k1 ?_; (case k1 => assumption)) | (refine fun (J9 : Shared → Prop) (k9 : LpK _ J9) => ?_))
local macro_rules | `(tactic| walk_at "mine go") => `(tactic| repeat' (first
  | (walk_at "mine step")
  | ((fail_if_success fail_if_success with_reducible refine gd5 ?_); k_fold)
  | ((fail_if_success (walk_at "mine stop")); first | walk1 | (dsimp only; walk1) | (k_unfold; (try dsimp only)))))
-- B1
theorem fill : hd.heap_39 = hd.heap_39 ∧ rw_sc0052_01 = rw_sc0052_01 := by
  k_fill
  exact ⟨rfl, rfl⟩

noncomputable def bisLgo (xs : List Int) (x : Int) : Nat → Nat → Nat → Nat
  | 0, lo, _ => lo
  | f + 1, lo, hi => if lo < hi then (if xs.getD ((lo + hi) / 2) 0 < x then bisLgo xs x f ((lo + hi) / 2 + 1) hi else bisLgo xs x f lo ((lo + hi) / 2)) else lo
noncomputable def bisL (xs : List Int) (x : Int) : Nat := bisLgo xs x (xs.length + 1) 0 xs.length
noncomputable def bisRgo (xs : List Int) (x : Int) : Nat → Nat → Nat → Nat
  | 0, lo, _ => lo
  | f + 1, lo, hi => if lo < hi then (if x < xs.getD ((lo + hi) / 2) 0 then bisRgo xs x f lo ((lo + hi) / 2) else bisRgo xs x f ((lo + hi) / 2 + 1) hi) else lo
noncomputable def bisR (xs : List Int) (x : Int) : Nat := bisRgo xs x (xs.length + 1) 0 xs.length
theorem bisLgo_le (xs : List Int) (x : Int) : ∀ f lo hi, lo ≤ hi → bisLgo xs x f lo hi ≤ hi
  | 0, lo, hi, h => h
  | f + 1, lo, hi, h => by
    unfold bisLgo
    split
    · split
      · exact bisLgo_le xs x f _ _ (by omega)
      · exact Nat.le_trans (bisLgo_le xs x f _ _ (by omega)) (by omega)
    · exact h
theorem bisL_le (xs : List Int) (x : Int) : bisL xs x ≤ xs.length := bisLgo_le xs x _ _ _ (Nat.zero_le _)
theorem bisRgo_le (xs : List Int) (x : Int) : ∀ f lo hi, lo ≤ hi → bisRgo xs x f lo hi ≤ hi
  | 0, lo, hi, h => h
  | f + 1, lo, hi, h => by
    unfold bisRgo
    split
    · split
      · exact Nat.le_trans (bisRgo_le xs x f _ _ (by omega)) (by omega)
      · exact bisRgo_le xs x f _ _ (by omega)
    · exact h
theorem bisR_le (xs : List Int) (x : Int) : bisR xs x ≤ xs.length := bisRgo_le xs x _ _ _ (Nat.zero_le _)
theorem mid_nat {lo hi : Nat} : (((lo : Int) + hi).fdiv 2).toNat = (lo + hi) / 2 := by rw [Int.fdiv_eq_ediv_of_nonneg _ (by decide)]; exact ar0
theorem mid_int {lo hi : Nat} : ((lo : Int) + hi).fdiv 2 = (((lo + hi) / 2 : Nat) : Int) := by rw [Int.fdiv_eq_ediv_of_nonneg _ (by decide)]; exact ar1

section
variable {w : World} {dp un : Nat} {fr : Option (List Env)} {gd : Option (List Code)} {s : Shared} {p : Program} {loose : List Str} {mg mb : Str → Option Value} {Q : Value → Shared → Prop} {h₀ : Heap}

inductive BisI (go : Nat → Nat → Nat → Nat) (res len : Nat) (s : Shared) (g : Heap) (L a : Addr) (x : Int) (tx : Tok) (n : Nat) (s' : Shared) : Prop
  | mk (h : Heap) (tk : Nat) (m : Str → Option Value) (lo hi : Nat) (tlo thi : Tok) (f : Nat) (e : s' = { s with heap := h, toks := tk }) (F : Fr g L h m) (ha : m (Str.ofString "a") = some (.ref a)) (hx : m (Str.ofString "x") = some (.int x tx))
    (hlo : m (Str.ofString "lo") = some (.int ((lo : Nat) : Int) tlo)) (hhi : m (Str.ofString "hi") = some (.int ((hi : Nat) : Int) thi)) (hn : n = hi - lo) (hle : hi ≤ len) (hf : hi - lo < f) (hr : go f lo hi = res)
set_option maxHeartbeats 4000000 in
theorem bl_spec {a : Addr} {vs : List Value} {xs : List Int} {x : Int} {tx tl : Tok} {args : List Value}
    (k₀ : h₀.StaysIn s.heap) (X : (hd.heap_39 w.params).In h₀) (T : TopRead p loose mg mb h₀) (hroom : dp < recursionLimit)
    (hargs : (args = [.ref a, .int x tx] ∧ tl = 216) ∨ args = [.ref a, .int x tx, .int 0 tl, .none])
    (hl : s.heap.IsList a vs.toArray) (hi : IntsAre vs xs) (hn : vs.length < 1000)
    (h : ∀ t h' tk, s.heap.StaysIn h' → Q (.int (bisL xs x) t) { s with heap := h', toks := tk }) :
    wpAny (model PR w) (AA dp un fr gd) (call (.ref 41) args) Q NoE s := by
  refine' enterM (binds := [(Str.ofString "a", .ref a), (Str.ofString "x", .int x tx), (Str.ofString "lo", .int 0 tl), (Str.ofString "hi", .none), (Str.ofString "key", .none)]) [] ?k ?X ?T ?hm ?ho ?hcd ?hroom ?hb ?hloc ?_ ?c2 ?c3 ?c4 ?c5
  case k => exact k₀
  case X => exact X
  case T => exact T
  case hm => exact fun _ q => nomatch q
  case ho => k_is
  case hcd => k_is
  case hroom => exact hroom
  case hb =>
    intro M' A' E' Q' hq
    rcases hargs with ⟨rfl, rfl⟩ | rfl
    all_goals
      refine wp_loadR (a := 33) (k₀ _ _ (X 33 _ (by k_is))) ?_
      refine wp_loadR (a := 34) (k₀ _ _ (X 34 _ (by k_is))) ?_
      exact wp_pureR hq
  case hloc => exact locs rfl
  case c2 => rfl
  case c3 => rfl
  case c4 => rfl
  case c5 => decide
  intro g L h₁ kg bg og F N Xg Tg
  have hlg : g.IsList a vs.toArray := stays_list (But.nil bg) hl
  have fin : ∀ t h' tk, g.StaysIn h' → Q (.int (bisL xs x) t) { s with heap := h', toks := tk } := fun t h' tk k => h t h' tk fun b o e => k b o (bg.nil b o e)
  clear h hl k₀ bg og kg hargs T X
  show wpAny _ _ _ _ _ _
  k_fold
  walk_at "mine go"
  rename Fr _ _ _ _ => F1
  refine while_own (BisI (bisLgo xs x) (bisL xs x) vs.length s g L a x tx) (vs.length) ?_ ?_
  · refine ⟨_, _, _, 0, vs.length, tl, ?t1, vs.length + 1, rfl, F1, ?_, ?_, ?_, ?a4, by exact ar2, by omega, by exact ar3, by rw [bisL, hi.length]⟩
    case a4 => exact rfl
    all_goals rfl
  · rintro n s' ⟨h2, tk2, m, lo, hi', tlo, thi, f, rfl, F2, ha, hx, hlo, hhi, hn', hle, hf, hr⟩
    have hN2 : News g L h2 [] := News.nil
    obtain ⟨f, rfl⟩ : ∃ g, f = g + 1 := ⟨f - 1, by exact ar4 hf⟩
    walk_at "mine go"
    · rename Fr _ _ _ _ => F3
      rename (lo : Int) < hi' => hlt
      rename xs.getD _ 0 < x => hc
      rw [mid_nat] at hc
      rw [mid_int] at F3
      rw [bisLgo, if_pos (by exact ar5 hlt), if_pos hc] at hr
      exact ⟨hi' - ((lo + hi') / 2 + 1), by exact ar6 hn' hlt, _, _, _, (lo + hi') / 2 + 1, hi', _, _, f, rfl, F3, ha, hx, rfl, hhi, rfl, hle, by exact ar7 hf hlt, hr⟩
    · rename Fr _ _ _ _ => F3
      rename (lo : Int) < hi' => hlt
      rename ¬ xs.getD _ 0 < x => hc
      rw [mid_nat] at hc
      rw [mid_int] at F3
      rw [bisLgo, if_pos (by exact ar5 hlt), if_neg hc] at hr
      exact ⟨(lo + hi') / 2 - lo, by exact ar8 hn' hlt, _, _, _, lo, (lo + hi') / 2, _, _, f, rfl, F3, ha, hx, hlo, rfl, rfl, by exact ar9 hle hlt, by exact ar10 hf hlt, hr⟩
    · rename ¬ (lo : Int) < hi' => hge
      rw [bisLgo, if_neg (by exact ar11 hge)] at hr
      rw [hr]
      exact fin _ _ _ F2.keep

set_option maxHeartbeats 4000000 in
theorem br_spec {a : Addr} {vs : List Value} {xs : List Int} {x : Int} {tx : Tok}
    (k₀ : h₀.StaysIn s.heap) (X : (hd.heap_39 w.params).In h₀) (T : TopRead p loose mg mb h₀) (hroom : dp < recursionLimit)
    (hl : s.heap.IsList a vs.toArray) (hi : IntsAre vs xs) (hn : vs.length < 1000)
    (h : ∀ t h' tk, s.heap.StaysIn h' → Q (.int (bisR xs x) t) { s with heap := h', toks := tk }) :
    wpAny (model PR w) (AA dp un fr gd) (call (.ref 23) [.ref a, .int x tx]) Q NoE s := by
  refine' enterM (binds := [(Str.ofString "a", .ref a), (Str.ofString "x", .int x tx), (Str.ofString "lo", .int 0 189), (Str.ofString "hi", .none), (Str.ofString "key", .none)]) [] ?k ?X ?T ?hm ?ho ?hcd ?hroom ?hb ?hloc ?_ ?c2 ?c3 ?c4 ?c5
  case k => exact k₀
  case X => exact X
  case T => exact T
  case hm => exact fun _ q => nomatch q
  case ho => k_is
  case hcd => k_is
  case hroom => exact hroom
  case hb =>
    intro M' A' E' Q' hq
    refine wp_loadR (a := 15) (k₀ _ _ (X 15 _ (by k_is))) ?_
    refine wp_loadR (a := 16) (k₀ _ _ (X 16 _ (by k_is))) ?_
    exact wp_pureR hq
  case hloc => exact locs rfl
  case c2 => rfl
  case c3 => rfl
  case c4 => rfl
  case c5 => decide
  intro g L h₁ kg bg og F N Xg Tg
  have hlg : g.IsList a vs.toArray := stays_list (But.nil bg) hl
  have fin : ∀ t h' tk, g.StaysIn h' → Q (.int (bisR xs x) t) { s with heap := h', toks := tk } := fun t h' tk k => h t h' tk fun b o e => k b o (bg.nil b o e)
  clear h hl k₀ bg og kg T X
  show wpAny _ _ _ _ _ _
  k_fold
  walk_at "mine go"
  rename Fr _ _ _ _ => F1
  refine while_own (BisI (bisRgo xs x) (bisR xs x) vs.length s g L a x tx) (vs.length) ?_ ?_
  · refine ⟨_, _, _, 0, vs.length, 189, ?t1, vs.length + 1, rfl, F1, ?_, ?_, ?_, ?a4, by exact ar2, by omega, by exact ar3, by rw [bisR, hi.length]⟩
    case a4 => exact rfl
    all_goals rfl
  · rintro n s' ⟨h2, tk2, m, lo, hi', tlo, thi, f, rfl, F2, ha, hx, hlo, hhi, hn', hle, hf, hr⟩
    have hN2 : News g L h2 [] := News.nil
    obtain ⟨f, rfl⟩ : ∃ g, f = g + 1 := ⟨f - 1, by exact ar4 hf⟩
    walk_at "mine go"
    · rename Fr _ _ _ _ => F3
      rename (lo : Int) < hi' => hlt
      rename x < xs.getD _ 0 => hc
      rw [mid_nat] at hc
      rw [mid_int] at F3
      rw [bisRgo, if_pos (by exact ar5 hlt), if_pos hc] at hr
      exact ⟨(lo + hi') / 2 - lo, by exact ar8 hn' hlt, _, _, _, lo, (lo + hi') / 2, _, _, f, rfl, F3, ha, hx, hlo, rfl, rfl, by exact ar9 hle hlt, by exact ar10 hf hlt, hr⟩
    · rename Fr _ _ _ _ => F3
      rename (lo : Int) < hi' => hlt
      rename ¬ x < xs.getD _ 0 => hc
      rw [mid_nat] at hc
      rw [mid_int] at F3
      rw [bisRgo, if_pos (by exact ar5 hlt), if_neg hc] at hr
      exact ⟨hi' - ((lo + hi') / 2 + 1), by exact ar6 hn' hlt, _, _, _, (lo + hi') / 2 + 1, hi', _, _, f, rfl, F3, ha, hx, rfl, hhi, rfl, hle, by exact ar7 hf hlt, hr⟩
    · rename ¬ (lo : Int) < hi' => hge
      rw [bisRgo, if_neg (by exact ar11 hge)] at hr
      rw [hr]
      exact fin _ _ _ F2.keep

end
-- B2
theorem isList_news {h₀ h : Heap} {L a : Addr} {news : List (Addr × Obj)} {l : List Value} {n : Nat} (N : News h₀ L h news) (hm : (a, listOf l.toArray n) ∈ news) : h.IsList a l.toArray :=
  ⟨_, (N _ hm).1, rfl, n, rfl⟩
theorem fits_nat {k : Nat} (h : k < 1000) : Builtin.List.listFitsIndex ((k : Nat) : Int) = true := by
  unfold Builtin.List.listFitsIndex
  simp
  exact ar12 h
theorem kl_ins_nat {l : List Value} {k : Nat} {y : Value} (h : k ≤ l.length) : kl_ins l ((k : Nat) : Int) y = l.take k ++ y :: l.drop k := by
  unfold kl_ins
  rw [if_neg (by omega), Int.toNat_natCast, Nat.min_eq_left h]
theorem ints_insert {vs : List Value} {xs : List Int} {x : Int} {t : Tok} (h : IntsAre vs xs) (k : Nat) : IntsAre (vs.take k ++ .int x t :: vs.drop k) (xs.take k ++ x :: xs.drop k) :=
  IntsAre.append (h.take k) (.cons x t (h.drop k))
noncomputable def insL (xs : List Int) (x : Int) : List Int := xs.take (bisL xs x) ++ x :: xs.drop (bisL xs x)

theorem stb2_0 {x0 x1 x2 x3 x4 x5 x6} (h : wpAny x0 x1 (call (Value.ref 41) x2 x3) x4 x5 x6) : wpAny x0 x1 (call (Value.ref 41) x2 x3) x4 x5 x6 := h
local macro_rules | `(tactic| walk_at "mine stop") => `(tactic| with_reducible refine stb2_0 ?_)
section
variable {w : World} {dp un : Nat} {fr : Option (List Env)} {gd : Option (List Code)} {s : Shared} {p : Program} {loose : List Str} {mg mb : Str → Option Value} {Q : Value → Shared → Prop} {h₀ : Heap}

set_option maxHeartbeats 4000000 in
theorem ins_spec {a : Addr} {vs : List Value} {n : Nat} {xs : List Int} {x : Int} {tx : Tok}
    (k₀ : h₀.StaysIn s.heap) (X : (hd.heap_39 w.params).In h₀) (T : TopRead p loose mg mb h₀) (hroom : dp + 1 < recursionLimit)
    (hl : s.heap.get? a = some (listOf vs.toArray n)) (hl0 : h₀.get? a = none) (hi : IntsAre vs xs) (hn : vs.length < 1000)
    (h : ∀ h' tk vs' n', But [a] s.heap h' → h'.get? a = some (listOf vs'.toArray n') → IntsAre vs' (insL xs x) → Q .none { s with heap := h', toks := tk }) :
    wpAny (model PR w) (AA dp un fr gd) (call (.ref 32) [.ref a, .int x tx]) Q NoE s := by
  refine' enterM (binds := [(Str.ofString "a", .ref a), (Str.ofString "x", .int x tx), (Str.ofString "lo", .int 0 203), (Str.ofString "hi", .none), (Str.ofString "key", .none)]) [(a, listOf vs.toArray n)] ?k ?X ?T ?hm ?ho ?hcd ?hroom ?hb ?hloc ?_ ?c2 ?c3 ?c4 ?c5
  case k => exact k₀
  case X => exact X
  case T => exact T
  case hm => exact List.forall_mem_cons.mpr ⟨⟨hl, hl0⟩, fun _ q => nomatch q⟩
  case ho => k_is
  case hcd => k_is
  case hroom => exact Nat.lt_of_succ_lt hroom
  case hb =>
    intro M' A' E' Q' hq
    refine wp_loadR (a := 24) (k₀ _ _ (X 24 _ (by k_is))) ?_
    refine wp_loadR (a := 25) (k₀ _ _ (X 25 _ (by k_is))) ?_
    exact wp_pureR hq
  case hloc => exact locs rfl
  case c2 => rfl
  case c3 => rfl
  case c4 => rfl
  case c5 => decide
  intro g L h₁ kg bg og F N Xg Tg
  have fin : ∀ h' tk vs' n', g.StaysIn h' → h'.get? a = some (listOf vs'.toArray n') → IntsAre vs' (insL xs x) → Q .none { s with heap := h', toks := tk } := fun h' tk vs' n' k e i => h h' tk vs' n' (fun b o q e => k b o (bg b o q e)) e i
  clear h hl hl0 k₀ bg og kg T X
  show wpAny _ _ _ _ _ _
  k_fold
  walk_at "mine go"
  refine' bl_spec ?k ?X ?T ?r ?g ?l ?i ?n ?_
  case k => exact Fr.keep (by k_asm)
  case X => assumption
  case T => assumption
  case r => first | assumption | (dsimp only [Around.deeper, AA]; omega)
  case g => first | exact .inl ⟨rfl, rfl⟩ | exact .inr rfl
  case l => exact isList_news (by k_asm) (by k_mem)
  case i => assumption
  case n => assumption
  intro t' h' tk' k'; (try dsimp only at k'); have F' := fr_stays (by k_asm) k'; have N' := news_stays (by k_asm) k'; clear k'
  walk_at "mine go"
  rename Fr _ _ _ _ => F1
  rename News _ _ _ _ => N1
  have hk : bisL xs x ≤ vs.length := by rw [hi.length]; exact bisL_le xs x
  refine kl_insert F1 N1 (fits_nat (by exact (Nat.lt_of_le_of_lt hk hn))) (kl_ins_nat hk) (.head (fun _ q => nomatch q)) (by show vs.length ≤ _; rw [sizeLine_eq]; exact (Nat.le_of_lt (Nat.lt_trans hn (by decide : 1000 < 16777216)))) fun h2 F2 N2 => ?_
  walk_at "mine go"
  exact fin _ _ _ _ F2.keep (N2 _ (.head _)).1 (ints_insert hi _)
end
-- G1
section
variable {M : Model} {A : Around} {R : GenEnd} {Y : Protocol} {n : Nat} {s₀ : Shared} {c : Code} {fs : List Frame} {s : Shared} {env : Env}
  {K : Flow → Sem Fin} {H : Value → Sem Fin} {gd : Bool → Bool} {lv : List Value → List Value}

theorem seg_wrapN {α : Type} {m : Sem α} {K : α → Sem Fin} {H : Value → Sem Fin} {gd lv} (h : wpAny M (A.over c fs) m (fun a s' => Seg M A R Y n s₀ c (K a) fs s') NoE s) :
    Seg M A R Y n s₀ c (m.wrap K H gd lv) fs s := seg_wrap (wpAny_mono h (fun _ _ x => x) fun _ _ e => e.elim)
theorem seg_bindN {α β : Type} {m : Sem α} {K : α → Sem β} {K' : β → Sem Fin} {H' : Value → Sem Fin} {gd lv} (h : wpAny M (A.over c fs) m (fun a s' => Seg M A R Y n s₀ c ((K a).wrap K' H' gd lv) fs s') NoE s) :
    Seg M A R Y n s₀ c ((m >>= K).wrap K' H' gd lv) fs s := seg_bind_wrap (wpAny_mono h (fun _ _ x => x) fun _ _ e => e.elim)

/-- a statement without a yield -/
theorem seg_stmt {st : Stmt} {rest : List Stmt} (h : wpAny M (A.over c fs) (exec st env) (fun f s' => match f with
      | .next => Seg M A R Y n s₀ c ((execs rest env).wrap K H gd lv) fs s'
      | f => Seg M A R Y n s₀ c (K f) fs s') NoE s) : Seg M A R Y n s₀ c ((execs (st :: rest) env).wrap K H gd lv) fs s := by
  refine seg_execs_cons (seg_wrapN (wpAny_mono h (fun f s' x => ?_) fun _ _ e => e))
  cases f <;> exact x

theorem seg_If {test : Expr} {body orelse : List Stmt} {pos : Pos} (h : wpAny M (A.over c fs) (isTrue test env (eval test env)) (fun b s' =>
      if b = true then Seg M A R Y n s₀ c ((execs body env).wrap K H gd lv) fs s' else Seg M A R Y n s₀ c ((execs orelse env).wrap K H gd lv) fs s') NoE s) :
    Seg M A R Y n s₀ c ((exec (.If test body orelse pos) env).wrap K H gd lv) fs s := by
  rw [exec_If]
  refine seg_bindN (wpAny_standAt (seg_bindN (wpAny_mono h (fun b s' x => ?_) fun _ _ e => e)))
  cases b <;> exact x

/-- yield as a statement -/
theorem seg_yieldS {e : Expr} {rest : List Stmt} {ypos pos : Pos} (hfs : splitAtGen fs = none) (hgd : gd false = false) (hfg : fs.any Frame.guarded = false)
    (h : wpAny M (A.over c fs) (eval e env) (fun v s' => ∀ kap : Resume → Shared → Prop,
        (∀ s'', Seg M A R Y n s'' c ((execs rest env).wrap K H gd lv) fs s'' → kap (.send .none) s'') → Y n s₀ v s' kap) NoE s)
    (hco : env.scope.isCoroutine = false := by rfl) (hi : interactive env = false := by rfl) :
    Seg M A R Y (n + 1) s₀ c ((execs (.Expr (.Yield (some e) ypos) pos :: rest) env).wrap K H gd lv) fs s := by
  refine seg_execs_cons (seg_Expr_Yield hfs hgd hfg (wpAny_mono h (fun v s' x kap hk => x kap fun s'' q => hk .none s'' q) fun _ _ e => e.elim) hco hi)

noncomputable def runK (env : Env) (K : Flow → Sem Fin) (H : Value → Sem Fin) (gd : Bool → Bool) (lv : List Value → List Value) : Result → Sem Fin := fun r => ((match r with | .ok f => (.pure f : Sem Flow) | .error e => .raise e).onRaise fun (x : Value) => do
        if (← field x 1) == Value.none then unsupported "frame.own-activation:exception-without-traceback"
        setFlight x env.frame).wrap K H gd lv
theorem runK_ok (f : Flow) : runK env K H gd lv (.ok f) = K f := rfl
theorem seg_runOwn {c' : Code} (h : ∀ p, Seg M A R Y n s₀ c' (M.den c') (.ret (runK env K H gd lv) none (gd false) (lv []) c p [] :: fs) s) :
    Seg M A R Y n s₀ c ((runOwn c' env).wrap K H gd lv) fs s := seg_call h

theorem seg_For {target iter : Expr} {body : List Stmt} {rest : List Stmt} {pos : Pos}
    (h : wpAny M (A.over c fs) (eval iter env) (fun x s₁ => wpAny M (A.over c fs) (pyIter x) (fun it s₂ =>
      ∀ p, Seg M A R Y n s₀ (.forLoop target it body [] env) (M.den (.forLoop target it body [] env)) (.ret (runK env (fun f => match f with | .next => (execs rest env).wrap K H gd lv | f => K f) H gd lv) none (gd false) (lv []) c p [] :: fs) s₂) NoE s₁) NoE s)
    (hs : ∀ x, foldedSetIterable iter env x = pure x := by intro _; rfl) :
    Seg M A R Y n s₀ c ((execs (.For target iter body [] pos :: rest) env).wrap K H gd lv) fs s := by
  refine seg_execs_cons ?_
  rw [exec_For]
  refine seg_bindN (wpAny_standAt (seg_bindN (wpAny_mono h (fun x s₁ h₁ => ?_) fun _ _ e => e)))
  rw [hs]
  refine seg_bindN (wpAny_pure (seg_bindN (wpAny_standAt (seg_bindN (wpAny_holding (wpAny_mono h₁ (fun it s₂ h₂ => ?_) fun _ _ e => e))))))
  exact seg_runOwn h₂
end

section
variable {prog : Program} {w : World} {A : Around} {R : GenEnd} {Y : Protocol} {n : Nat} {s₀ : Shared} {fs : List Frame} {s : Shared} {env : Env}
theorem seg_forLoop {target : Expr} {it : Value} {body : List Stmt}
    (h : wpAny (model prog w) (A.over (.forLoop target it body [] env) fs) (pyNext it) (fun r s' => match r with
      | none => Seg (model prog w) A R Y n s₀ (.block [] env) (.pure (.done .next)) fs s'
      | some v => wpAny (model prog w) (A.over (.forLoop target it body [] env) fs) (letOwnedTupleGo target it v) (fun _ s₁ =>
          wpAny (model prog w) (A.over (.forLoop target it body [] env) fs) (assign target env v) (fun _ s₂ =>
            Seg (model prog w) A R Y n s₀ (.forLoop target it body [] env) ((execs body env).wrap (fun f => match f with
              | .next | .cont => .pure (.again (.forLoop target it body [] env))
              | .brk => .pure (.done .next)
              | .ret v => .pure (.done (.ret v))) (fun e => (do noteFrame e env; theTreesLotGoes e : Sem Unit).wrap (fun _ => .raise e) .raise id id) id id) fs s₂) NoE s₁) NoE s') NoE s) :
    Seg (model prog w) A R Y n s₀ (.forLoop target it body [] env) ((model prog w).den (.forLoop target it body [] env)) fs s := by
  show Seg _ A R Y n s₀ _ ((forTurn target it body [] env).onRaise (fun x => do noteFrame x env; theTreesLotGoes x)) fs s
  unfold forTurn
  rw [Sem.onRaise_eq_wrap]
  refine seg_bindN (wpAny_standAt (seg_bindN (wpAny_onRaise (wpAny_mono h (fun r s' h' => ?_) fun _ _ e => e.elim))))
  cases r with
  | none => exact seg_again rfl h'
  | some v =>
    refine seg_bindN (wpAny_mono h' (fun _ s₁ h₁ => ?_) fun _ _ e => e)
    refine seg_bindN (wpAny_mono h₁ (fun _ s₂ h₂ => ?_) fun _ _ e => e)
    rw [Sem.bind_eq_wrap', Sem.wrap_wrap]
    rw [Sem.wrap_congr (execs body env) _ _ (K' := fun f => match f with
              | .next | .cont => .pure (.again (.forLoop target it body [] env))
              | .brk => .pure (.done .next)
              | .ret v => .pure (.done (.ret v))) (H' := (fun e => (do noteFrame e env; theTreesLotGoes e : Sem Unit).wrap (fun _ => .raise e) .raise id id))
        (fun f => by cases f <;> rfl)
        (fun e => by show (do noteFrame e env; theTreesLotGoes e : Sem Unit).bind (fun _ => .raise e) = _; rw [Sem.bind_eq_wrap])]
    exact h₂
end
-- G2
noncomputable def fBody : Stmt → List Stmt
  | .FunctionDef _ _ b _ _ _ _ _ _ _ => b
  | _ => []
noncomputable def fScope : Stmt → Scope
  | .FunctionDef _ _ _ _ _ _ s _ _ _ => s
  | _ => default
noncomputable def gBody : List Stmt := fBody (PySem.Challenge.pw_sc0052_01.main.body.getD 5 default)
noncomputable def gScope : Scope := fScope (PySem.Challenge.pw_sc0052_01.main.body.getD 5 default)
noncomputable abbrev gEnv (L : Addr) : Env := envOf (Str.ofString "_iter_escaped_chars") gScope L 48 (.ref 47)

/-- what the generator yields: place and sign(s); a sign is its number -/
noncomputable def escs : Nat → Bool → List Nat → List (Nat × List Nat)
  | i, esc, [] => if esc then [(i - 1, [92])] else []
  | i, true, c :: r => (i, [92, c]) :: escs (i + 1) false r
  | i, false, c :: r => if c = 92 then escs (i + 1) true r else (i, [c]) :: escs (i + 1) false r

noncomputable def trunc (L : Nat) (h : Heap) : Heap := ⟨h.objs.extract 0 L, h.life⟩
theorem trunc_get {L : Nat} {h : Heap} {a : Nat} (ha : a < L) : (trunc L h).get? a = h.get? a := by
  have e : (h.objs.extract 0 L)[a]? = h.objs[a]? := by
    rw [Array.getElem?_extract]
    simp
    intro q
    exact ar160 ha q
  show (match (h.objs.extract 0 L)[a]? with | some ⟨_, _, .freed, _⟩ => none | o => o) = _
  rw [e]
  rfl
theorem trunc_size (L : Nat) (h : Heap) : (trunc L h).objs.size ≤ L := by
  show (h.objs.extract 0 L).size ≤ L
  rw [Array.size_extract]
  exact ar161
theorem trunc_none {L : Nat} {h : Heap} {a : Nat} (ha : L ≤ a) : (trunc L h).get? a = none := by
  cases q : (trunc L h).get? a with
  | none => rfl
  | some o =>
    have h1 : a < (trunc L h).objs.size := Heap.lt_size q
    have h2 := trunc_size L h
    exact ar162 ha h1 h2

/-- only the generator's own frame and what is younger than its object has turned -/
def Mv (Lg : Nat) (s₀ s : Shared) : Prop := ∃ h' tk, s = { s₀ with heap := h', toks := tk } ∧ ∀ (b : Nat) o, b < Lg ∨ b = Lg + 1 → s₀.heap.get? b = some o → h'.get? b = some o
theorem Mv.refl (Lg : Nat) (s : Shared) : Mv Lg s s := ⟨s.heap, s.toks, rfl, fun _ _ _ e => e⟩
/-- what the consumer must leave alone between two steps -/
def Own (h₀ : Heap) (Lg : Nat) (h h' : Heap) : Prop := h₀.StaysIn h' ∧ ∀ (b : Nat) o, Lg ≤ b → h.get? b = some o → h'.get? b = some o
def GR (Lg : Nat) : GenEnd := fun n s₀ r s₁ => r = .ok (.ret .none) ∧ (n = 0 ∧ Mv Lg s₀ s₁)
def GY (h₀ : Heap) (Lg : Nat) (items : List (Nat × List Nat)) : Protocol := fun m s₀ v s kap =>
  ∃ T pos ch tp tc, items[items.length - 1 - m]? = some (pos, ch) ∧ v = .ref T ∧ IsTup s.heap T #[.int ((pos : Nat) : Int) tp, .str ⟨⟨ch⟩⟩ tc] ∧ Mv Lg s₀ s ∧ ∀ s'' : Shared, Own h₀ Lg s.heap s''.heap → kap (.send .none) s''

section
variable {w : World} {A : Around} {pp : Program} {loose : List Str} {mg mb : Str → Option Value} {h₀ : Heap}

noncomputable def forT : Stmt → Expr
  | .For t _ _ _ _ => t
  | _ => default
noncomputable def forB : Stmt → List Stmt
  | .For _ _ b _ _ => b
  | _ => []
noncomputable abbrev gLoop (e L : Addr) : Code := .forLoop (forT (gBody.getD 2 default)) (.ref e) (forB (gBody.getD 2 default)) [] (gEnv L)
noncomputable def kEnd : Flow → Sem Fin := fun f => .pure (.done (.ret (match f with | .ret v => v | _ => .none)))
noncomputable def hEnd (env : Env) : Value → Sem Fin := fun e => (leaving env e).wrap (fun _ => .raise e) .raise id id
noncomputable abbrev gFs (L : Addr) (p : Pos) : List Frame :=
  [.ret (runK (gEnv L) (fun f => match f with | .next => (execs (gBody.drop 3) (gEnv L)).wrap kEnd (hEnd (gEnv L)) id id | f => kEnd f) (hEnd (gEnv L)) id id) none (id false) (id []) (.func gBody (gEnv L)) p []]

theorem sign_eq {c d : Nat} : ((Str.mk #[c] == Str.mk #[d]) = true) ↔ c = d := by
  rw [beq_iff_eq]
  constructor
  · intro h; injection h with h; simpa using h
  · rintro rfl; rfl
theorem nm2 {a b c B : Nat} (h : a < B) (hb : B ≤ b) (hc : B ≤ c) : a ∉ [b, c] := by
  intro q
  rcases List.mem_cons.mp q with q | q
  · exact Nat.lt_irrefl _ (Nat.lt_of_le_of_lt (Nat.le_trans hb (Nat.le_of_eq q.symm)) h)
  · have := List.mem_singleton.mp q; exact Nat.lt_irrefl _ (Nat.lt_of_le_of_lt (Nat.le_trans hc (Nat.le_of_eq this.symm)) h)
theorem mem2 {P : Nat → Prop} {a b : Nat} (h1 : P a) (h2 : P b) : ∀ c ∈ [a, b], P c := by
  intro c q
  rcases List.mem_cons.mp q with rfl | q
  · exact h1
  · rw [List.mem_singleton.mp q]; exact h2
structure GIn (h₀ : Heap) (Lg : Nat) (G0 : Obj) (K : Frag) (pp : Program) (loose : List Str) (mg mb : Str → Option Value) (s₀ s : Shared) (g : Heap) (m : Str → Option Value) (news : List (Addr × Obj)) : Prop where
  size : g.objs.size ≤ Lg
  X : K.In g
  T : TopRead pp loose mg mb g
  old : ∀ (b : Nat) o, b < Lg → s₀.heap.get? b = some o → g.get? b = some o
  G : s₀.heap.get? (Lg + 1) = some G0
  F : Fr g Lg s.heap m
  N : News g Lg s.heap ((Lg + 1, G0) :: news)
  same : ∃ h tk, s = { s₀ with heap := h, toks := tk }
theorem GIn.mv {Lg : Nat} {G0 : Obj} {K : Frag} {s₀ s : Shared} {g : Heap} {m : Str → Option Value} {news : List (Addr × Obj)} (I : GIn h₀ Lg G0 K pp loose mg mb s₀ s g m news) : Mv Lg s₀ s := by
  obtain ⟨h, tk, rfl⟩ := I.same
  refine ⟨h, tk, rfl, fun b o hb e => ?_⟩
  rcases hb with hb | rfl
  · exact I.F.keep b o (I.old b o hb e)
  · rw [I.G] at e; cases e
    exact (I.N _ (.head _)).1
/-- the next step's start -/
theorem GIn.next {Lg : Nat} {G0 : Obj} {K : Frag} {s₀ s : Shared} {g : Heap} {m : Str → Option Value} {news : List (Addr × Obj)} (I : GIn h₀ Lg G0 K pp loose mg mb s₀ s g m news)
    (X : K.In h₀) (T : TopRead pp loose mg mb h₀) (hh : ∀ (b : Nat) o, h₀.get? b = some o → b < Lg) (hn : ∀ q ∈ news, @LE.le Nat _ Lg q.1) (s'' : Shared) (O : Own h₀ Lg s.heap s''.heap) :
    GIn h₀ Lg G0 K pp loose mg mb s'' s'' (trunc Lg s''.heap) m news := by
  have st : h₀.StaysIn (trunc Lg s''.heap) := fun b o e => by rw [trunc_get (hh b o e)]; exact O.1 b o e
  refine ⟨trunc_size _ _, X.keeps st, T.keeps st, fun b o hb e => by rw [trunc_get hb]; exact e, O.2 _ _ (by exact (Nat.le_of_lt (Nat.lt_add_of_pos_right (by decide)))) (I.N _ (.head _)).1, ?_, ?_, ⟨_, _, rfl⟩⟩
  · refine byG fun G9 k9 => ?_; rcases I.F.ns with ⟨oL, es, ep, hL, r⟩; all_goals (refine k9 ?_; clear k9 G9)
    refine ⟨⟨oL, es, ep, O.2 _ _ (Nat.le_refl _) hL, r⟩, fun b o e => ?_, trunc_size _ _⟩
    by_cases hb : (b : Nat) < Lg
    · rw [trunc_get hb] at e; exact e
    · rw [trunc_none (Nat.le_of_not_lt hb)] at e; cases e
  · intro q hq
    have hl : @LE.le Nat _ Lg q.1 := by
      refine memc hq ?_ fun q hq => ?_
      · exact Nat.le_succ Lg
      · exact hn q hq
    exact ⟨O.2 _ _ hl (I.N q hq).1, (I.N q hq).2.1, trunc_none hl⟩

theorem GIn.none {Lg a : Nat} {G0 : Obj} {K : Frag} {s₀ s : Shared} {g : Heap} {m : Str → Option Value} {news : List (Addr × Obj)} (I : GIn h₀ Lg G0 K pp loose mg mb s₀ s g m news) (ha : Lg ≤ a) : g.get? a = none := by
  cases q : g.get? a with
  | none => rfl
  | some o =>
    have h1 : a < g.objs.size := Heap.lt_size q
    have := I.size
    exact ar162 ha h1 this
theorem GIn.turn {Lg : Nat} {G0 : Obj} {K : Frag} {s₀ s : Shared} {g : Heap} {m : Str → Option Value} {news : List (Addr × Obj)} (I : GIn h₀ Lg G0 K pp loose mg mb s₀ s g m news)
    {h' : Heap} {tk : Nat} {m' : Str → Option Value} {news' : List (Addr × Obj)} (F : Fr g Lg h' m') (N : News g Lg h' ((Lg + 1, G0) :: news')) : GIn h₀ Lg G0 K pp loose mg mb s₀ { s with heap := h', toks := tk } g m' news' :=
  ⟨I.size, I.X, I.T, I.old, I.G, F, N, by obtain ⟨h, tk, rfl⟩ := I.same; exact ⟨_, _, rfl⟩⟩
theorem GIn.but {Lg e it : Nat} {G0 : Obj} {K : Frag} {s₀ s : Shared} {g : Heap} {m : Str → Option Value} {news : List (Addr × Obj)} (I : GIn h₀ Lg G0 K pp loose mg mb s₀ s g m news)
    (hBe : Lg < e) (hBi : Lg < it) (he1 : e ≠ Lg + 1) (hi1 : it ≠ Lg + 1) {h' : Heap} (k : But [e, it] s.heap h') : Fr g Lg h' m ∧ h'.get? (Lg + 1) = some G0 :=
  ⟨fr_but I.F k (fun q => (nm2 (B := Lg + 1) (Nat.lt_succ_self Lg) hBe hBi) q) (mem2 (P := fun a => g.get? a = Option.none) (I.none (Nat.le_of_lt hBe)) (I.none (Nat.le_of_lt hBi))),
    k _ _ (fun q => by
      rcases List.mem_cons.mp q with q | q
      · exact he1 q.symm
      · exact hi1 (List.mem_singleton.mp q).symm) (I.N _ (.head _)).1⟩
/-- the end of the loop: the last sign's turn -/
theorem g_end {w : World} {dp un : Nat} {fr : Option (List Env)} {gd : Option (List Code)} {Lg : Nat} {G0 : Obj} {items : List (Nat × List Nat)}
    (X : (hd.heap_39 w.params).In h₀) (T : TopRead pp loose mg mb h₀) (hh : ∀ (b : Nat) o, h₀.get? b = some o → b < Lg)
    {i : Nat} {esc : Bool} {s₀ s : Shared} {g : Heap} {m : Str → Option Value} (hesc : esc = true → 0 < i) (hpre : ∃ pre, items = pre ++ escs i esc [])
    (hm : m (Str.ofString "escape") = some (.bool esc)) (hpos : 0 < i → ∃ t, m (Str.ofString "pos") = some (.int (i - 1 : Nat) t))
    (I : GIn h₀ Lg G0 (hd.heap_39 w.params) pp loose mg mb s₀ s g m []) :
    Seg (model PR w) (AA dp un fr gd) (GR Lg) (GY h₀ Lg items) (escs i esc []).length s₀ (.func gBody (gEnv Lg)) ((execs (gBody.drop 3) (gEnv Lg)).wrap kEnd (hEnd (gEnv Lg)) id id) [] s := by
  have X' := I.X
  have T' := I.T
  have F' := I.F
  have N' := I.N
  refine seg_execs_cons (seg_If ?_)
  cases esc with
  | false =>
    k_fold
    walk_at "mine go"
    refine seg_execs_nil ?_
    refine seg_execs_nil ?_
    exact seg_end (.ok (.ret .none)) ⟨rfl, rfl, I.mv⟩
  | true =>
    obtain ⟨tp, hpos⟩ := hpos (hesc rfl)
    k_fold
    walk_at "mine go"
    refine seg_yieldS (n := 0) rfl rfl rfl ?_
    show wpAny _ _ _ _ _ _
    k_fold
    walk_at "mine go"
    rename Fr _ _ _ _ => F2
    rename News _ _ _ _ => N2
    rename_i kap hk
    obtain ⟨pre, rfl⟩ := hpre
    have I2 := I.turn (tk := s.toks + 1) F2 (fun q hq => N2 q (.tail _ hq))
    refine ⟨_, i - 1, [92], _, _, by simp [escs], rfl, News.isTup N2 (.head _), I2.mv, fun s'' O => hk s'' ?_⟩
    have I3 := I2.next X T hh (fun _ q => nomatch q) s'' O
    refine seg_execs_nil ?_
    refine seg_execs_nil ?_
    exact seg_end (.ok (.ret .none)) ⟨rfl, rfl, I3.mv⟩

theorem g_loop {dp un : Nat} {fr : Option (List Env)} {gd : Option (List Code)} {Lg e it : Nat} {G0 : Obj} {x : Str} {t : Tok} {items : List (Nat × List Nat)} {p : Pos}
    (X : (hd.heap_39 w.params).In h₀) (T : TopRead pp loose mg mb h₀) (hei : e ≠ it) (hBe : Lg < e) (hBi : Lg < it) (he1 : e ≠ Lg + 1) (hi1 : it ≠ Lg + 1) (hh : ∀ (b : Nat) o, h₀.get? b = some o → b < Lg) :
    ∀ (rest : List Nat) (i : Nat) (esc : Bool) (s₀ s : Shared) (g : Heap) (m : Str → Option Value) (old : Value) (io : Obj), x.cps.toList.drop i = rest → i ≤ x.cps.size → (esc = true → 0 < i) → (∃ pre, items = pre ++ escs i esc rest) →
      m (Str.ofString "escape") = some (.bool esc) → (0 < i → ∃ t, m (Str.ofString "pos") = some (.int (i - 1 : Nat) t)) →
      GIn h₀ Lg G0 (hd.heap_39 w.params) pp loose mg mb s₀ s g m [(e, { cls := .type "enumerate", dict := none, data := .fields #[.none, .bool false, .ref it, rawInt i, .none, old], slots := #[] }), (it, io)] →
      io.cls = .type "str_ascii_iterator" → io.data = .fields #[.str x t, .int i 0] →
      Seg (model PR w) (AA dp un fr gd) (GR Lg) (GY h₀ Lg items) (escs i esc rest).length s₀ (gLoop e Lg) ((model PR w).den (gLoop e Lg)) (gFs Lg p) s := by
  intro rest
  induction rest with
  | nil =>
    intro i esc s₀ s g m old io hx hle hesc hpre hm hpos I hic hid
    have hsz : i = x.cps.size := by
      have := List.drop_eq_nil_iff.mp hx
      simp at this
      exact ar163 hle this
    subst hsz
    refine seg_forLoop ?_
    have W := WalksT.enumerateD (prog := PR) (w := w) (A := (AA dp un fr gd).over (gLoop e Lg) (gFs Lg p)) (Draws.strAscii rfl it x t) e hei (by simp [hei]) (by simp)
    refine W.done _ _ _ ⟨⟨_, (I.N _ (.tail _ (.head _))).1⟩, ⟨_, (I.N _ (.tail _ (.tail _ (.head _)))).1, hic, hid⟩⟩ fun h' tk hk => ?_
    obtain ⟨F', hG'⟩ := I.but hBe hBi he1 hi1 (fun b o hb e => hk b o hb e)
    refine seg_leaf (.ok .next) ?_
    exact g_end X T hh hesc hpre hm hpos (I.turn F' (List.forall_mem_cons.mpr ⟨⟨hG', (I.N _ (.head _)).2⟩, fun _ q => nomatch q⟩))
  | cons c rest ih =>
    intro i esc s₀ s g m old io hx hle hesc hpre hm hpos I hic hid
    have TH := T
    have hlt : i < x.cps.size := by
      have := congrArg List.length hx
      simp at this
      exact ar164 this
    have hci : x.cps[i]? = some c := by
      have := congrArg List.head? hx
      simpa [List.head?_drop] using this
    have hrest : x.cps.toList.drop (i + 1) = rest := by
      rw [← List.tail_drop, hx]; rfl
    refine seg_forLoop ?_
    have W := WalksT.enumerateD (prog := PR) (w := w) (A := (AA dp un fr gd).over (gLoop e Lg) (gFs Lg p)) (Draws.strAscii rfl it x t) e hei (by simp [hei]) (by simp)
    refine W.item i _ _ _ hlt ⟨⟨_, (I.N _ (.tail _ (.head _))).1⟩, ⟨_, (I.N _ (.tail _ (.tail _ (.head _)))).1, hic, hid⟩⟩ fun TT vals h₁ tk hP hTs hTup hMid hk => ?_
    obtain ⟨ti, xv, ⟨c', u, hc', rfl⟩, rfl⟩ := hP
    rw [hci] at hc'
    obtain rfl : c = c' := Option.some.inj hc'
    have hTa := W.apart _ _ _ hMid
    refine W.go _ _ _ _ _ _ _ _ hMid fun h₂ hSt hk2 => ?_
    obtain ⟨⟨old', hE'⟩, ⟨io', hio', hic', hid'⟩⟩ := hSt
    obtain ⟨F', hG'⟩ := I.but hBe hBi he1 hi1 (fun b o hb q => hk2 b o hb (hk b o hb q))
    have hT2 : IsTup h₂ TT #[.int i ti, .str ⟨#[c]⟩ u] := by
      obtain ⟨o, ho, r⟩ := hTup
      exact ⟨o, hk2 _ _ hTa ho, r⟩
    have N' : News g Lg h₂ ((Lg + 1, G0) :: [(e, { cls := .type "enumerate", dict := none, data := .fields #[.none, .bool false, .ref it, rawInt ((i + 1 : Nat) : Int), .none, old'], slots := #[] }), (it, io')]) :=
      List.forall_mem_cons.mpr ⟨⟨hG', (I.N _ (.head _)).2⟩, List.forall_mem_cons.mpr ⟨⟨hE', (I.N _ (.tail _ (.head _))).2⟩, List.forall_mem_cons.mpr ⟨⟨hio', (I.N _ (.tail _ (.tail _ (.head _)))).2⟩, fun _ q => nomatch q⟩⟩⟩
    have I' := I.turn (tk := tk) F' N'
    clear W hMid hk hk2 hTup hE' hio' hG' hTs hc' hTa
    clear I
    have Xg := I'.X
    have Tg := I'.T
    show wpAny _ _ (assign (.Tuple _ _ _) _ _) _ _ _
    k_fold
    walk_at "mine go"
    rename Fr _ _ _ _ => F3
    rename News _ _ _ _ => N3
    have I3 := I'.turn (tk := tk + 1 + 1) F3 N3
    clear qk ek
    refine seg_execs_cons (seg_If ?_)
    cases esc with
    | true =>
      show wpAny _ _ _ _ _ _
      k_fold
      walk_at "mine go"
      obtain ⟨pre, rfl⟩ := hpre
      show Seg _ _ _ _ ((escs (i + 1) false rest).length + 1) _ _ _ _ _
      refine seg_yieldS rfl rfl rfl ?_
      clear qk ek
      show wpAny _ _ _ _ _ _
      k_fold
      walk_at "mine go"
      rename Fr _ _ _ _ => F4
      rename News _ _ _ _ => N4
      rename_i kap hk
      have I4 := fun tk => I3.turn (tk := tk) F4 (fun q hq => N4 q (.tail _ hq))
      refine ⟨_, i, [92, c], _, _, by simp [escs], rfl, News.isTup N4 (.head _), (I4 _).mv, fun s'' O => hk s'' ?_⟩
      clear qk ek
      have I5 := (I4 0).next X TH hh (List.forall_mem_cons.mpr ⟨Nat.le_of_lt hBe, List.forall_mem_cons.mpr ⟨Nat.le_of_lt hBi, fun _ q => nomatch q⟩⟩) s'' O
      refine seg_stmt ?_
      have X5 := I5.X
      have T5 := I5.T
      have F5 := I5.F
      have N5 := I5.N
      show wpAny _ _ _ _ _ _
      k_fold
      walk_at "mine go"
      rename Fr _ _ _ _ => F6
      rename News _ _ _ _ => N6
      have I6 := fun tk => I5.turn (tk := tk) F6 N6
      refine seg_execs_nil ?_
      refine seg_execs_nil ?_
      refine seg_again rfl ?_
      refine ih (i + 1) false s'' _ _ _ _ _ hrest hlt (fun q => nomatch q) ⟨pre ++ [(i, [92, c])], by simp [escs]⟩ rfl (fun _ => ⟨ti, rfl⟩) (I6 _) hic' hid'
    | false =>
      show wpAny _ _ _ _ _ _
      k_fold
      walk_at "mine go"
      refine seg_execs_cons (seg_If ?_)
      clear qk ek
      show wpAny _ _ _ _ _ _
      k_fold
      walk_at "mine go"
      · rename (Str.mk #[c] == Str.ofString "\\") = true => h92
        obtain rfl := sign_eq.mp h92
        clear qk ek
        refine seg_stmt ?_
        show wpAny _ _ _ _ _ _
        k_fold
        walk_at "mine go"
        rename Fr _ _ _ _ => F6
        rename News _ _ _ _ => N6
        have I6 := fun tk => I3.turn (tk := tk) F6 N6
        refine seg_execs_nil ?_
        refine seg_execs_nil ?_
        refine seg_execs_nil ?_
        refine seg_again rfl ?_
        exact ih (i + 1) true s₀ _ _ _ _ _ hrest hlt (fun _ => Nat.succ_pos i) hpre rfl (fun _ => ⟨ti, rfl⟩) (I6 _) hic' hid'
      · rename (Str.mk #[c] == Str.ofString "\\") = false => h92
        have hc : c ≠ 92 := fun q => Bool.noConfusion ((sign_eq.mpr q).symm.trans h92)
        have ee : escs i false (c :: rest) = (i, [c]) :: escs (i + 1) false rest := by rw [escs, if_neg hc]
        rw [ee] at hpre ⊢
        obtain ⟨pre, rfl⟩ := hpre
        clear qk ek
        show Seg _ _ _ _ ((escs (i + 1) false rest).length + 1) _ _ _ _ _
        refine seg_yieldS rfl rfl rfl ?_
        show wpAny _ _ _ _ _ _
        k_fold
        walk_at "mine go"
        rename Fr _ _ _ _ => F4
        rename News _ _ _ _ => N4
        rename_i kap hk
        have I4 := fun tk => I3.turn (tk := tk) F4 (fun q hq => N4 q (.tail _ hq))
        refine ⟨_, i, [c], _, _, by simp, rfl, News.isTup N4 (.head _), (I4 _).mv, fun s'' O => hk s'' ?_⟩
        clear qk ek
        have I5 := (I4 0).next X TH hh (List.forall_mem_cons.mpr ⟨Nat.le_of_lt hBe, List.forall_mem_cons.mpr ⟨Nat.le_of_lt hBi, fun _ q => nomatch q⟩⟩) s'' O
        refine seg_execs_nil ?_
        refine seg_execs_nil ?_
        refine seg_execs_nil ?_
        refine seg_again rfl ?_
        refine ih (i + 1) false s'' s'' _ _ _ _ hrest hlt (fun q => nomatch q) ⟨pre ++ [(i, [c])], by simp⟩ ?_ ?_ I5 hic' hid'
        · exact hm
        · exact fun _ => ⟨ti, rfl⟩
end
-- G3
/-- a step of a generator, seen by its consumer -/
def GMv (Lg g : Nat) (s s' : Shared) : Prop := ∃ h' tk gs', s' = { s with heap := h', toks := tk, gens := s.gens.setIfInBounds g gs' } ∧ gs'.bare = true ∧
  ∀ (b : Nat) o, b < Lg ∨ b = Lg + 1 → s.heap.get? b = some o → h'.get? b = some o
structure GenAt (w : World) (A : Around) (h₀ : Heap) (Lg g : Nat) (all items : List (Nat × List Nat)) (s : Shared) : Prop where
  obj : s.heap.IsGen (Lg + 1) g
  st : ∃ gs, s.gens[g]? = some gs ∧ ∀ s'' : Shared, Own h₀ Lg s.heap s''.heap → gs.Goes (model PR w) A.in1 (GR Lg) (GY h₀ Lg all) items.length (.send .none) s''
  suf : ∃ pre, all = pre ++ items
theorem GenAt.keep {w : World} {A : Around} {h₀ : Heap} {Lg g : Nat} {all items : List (Nat × List Nat)} {s s' : Shared} (I : GenAt w A h₀ Lg g all items s) (hg : s'.gens = s.gens) (hk : ∀ (b : Nat) o, Lg ≤ b → s.heap.get? b = some o → s'.heap.get? b = some o) :
    GenAt w A h₀ Lg g all items s' := by
  obtain ⟨⟨o, nm, qn, ho, r⟩, ⟨gs, e, k⟩, suf⟩ := I
  exact ⟨⟨o, nm, qn, hk _ _ (Nat.le_succ Lg) ho, r⟩, ⟨gs, by rw [hg]; exact e, fun s'' O => k s'' ⟨O.1, fun b o h e => O.2 b o h (hk b o h e)⟩⟩, suf⟩

section
variable {w : World} {A : Around} {h₀ : Heap} {Lg g : Nat} {all : List (Nat × List Nat)} {s : Shared} {E : Value → Shared → Prop}
theorem own_self {h : Heap} (k : h₀.StaysIn h) : Own h₀ Lg h h := ⟨k, fun _ _ _ e => e⟩

theorem newStop {M : Model} {Q : Value → Shared → Prop} (k : ∀ e h', s.heap.StaysIn h' → ∀ o, h'.get? e = some o → o.cls = .type "StopIteration" → Q (.ref e) { s with heap := h' }) :
    wpAny M A (newExc (.type "StopIteration") []) Q E s := by
  simp only [newExc, newTuple]
  refine wpAny_bind (wpAny_newObj_type ?_ (by size_fits))
  refine wpAny_bind (m := firstArgMember _ _) (wpAny_of_eq (a := Value.none) (by first | rfl | (simp only [firstArgMember]; rfl)) ?_)
  exact wpAny_newObj_type (k _ _ (fun b o hb => Heap.get?_push_of_some _ (Heap.get?_push_of_some _ hb)) _ (Heap.get?_push_size _ rfl) rfl) (by size_fits)

theorem gen_wake {n : Nat} {gs : GenState} {Q : Option Value → Shared → Prop} (hh : A.handled = none) (hl : s.heap.NoLimit) (hroom : A.depth < recursionLimit)
    (hg : s.heap.IsGen (Lg + 1) g) (hgs : s.gens[g]? = some gs)
    (hgo : gs.Goes (model PR w) A.in1 (GR Lg) (GY h₀ Lg all) n (.send .none) (s.setGen g .running))
    (hY : ∀ v s₁ gs', gs'.bare = true → GY h₀ Lg all (n - 1) (s.setGen g .running) v s₁ (fun r' s'' => match n with
        | 0 => False
        | m + 1 => gs'.Goes (model PR w) A.in1 (GR Lg) (GY h₀ Lg all) m r' s'') → Q (some v) (s₁.setGen g gs'))
    (hE : ∀ s₁, n = 0 → Mv Lg (s.setGen g .running) s₁ → ∀ h', s₁.heap.StaysIn h' → Q none { s₁.setGen g .finished with heap := h' }) :
    wpAny (model PR w) A (pyNext (.ref (Lg + 1))) Q E s := by
  unfold pyNext
  refine wpAny_bind (wpAny_attempt (wpAny_callSpecial?_slot (name := Str.ofString "__next__") hg.typeIs slot_gen_next
    (wpAny_call_entry slot_gen_next hg.typeIs entry_gen_next ?_ (args_gen_next _))))
  show wpAny _ A.in1 (Builtin.Generator.genWake (.ref (Lg + 1)) (.send .none)) _ _ s
  unfold Builtin.Generator.genWake
  refine wpAny_bind (wpAny_holding (wpAny_genNumber hg (wpAny_bind (wpAny_genState hgs ?_))))
  cases gs with
  | running => exact hgo.elim
  | finished => exact hgo.elim
  | _ =>
    refine wpAny_bind (wpAny_roomToWake hl hroom ?_)
    show wpAny _ A.in1 (.resume g (.send .none) [] _) _ _ s
    refine wpAny_resumeQ hgs hgo (fun x s₁ hx => ?_) (fun v s₁ gs' hb hv => wpAny_pure ⟨v, rfl, wpAny_pure (hY v s₁ gs' hb hv)⟩)
    obtain ⟨rfl, hn, hm⟩ := hx
    show wpAny _ A.in1 (newExc (.type "StopIteration") [] >>= _) _ _ _
    refine wpAny_bind (newStop fun e h' k o ho hc => ?_)
    simp only [raiseNew]
    refine wpAny_bind (wpAny_bind (wpAny_handled ?_))
    rw [show A.in1.handled = none from hh]
    refine wpAny_throw ?_
    exact wpAny_bind (wpAny_isInstance (T := "StopIteration") (b := true) ⟨o, ho, hc⟩ isSubtype_stop (wpAny_pure (hE s₁ hn hm h' k)))

theorem set_set (a : Array GenState) (i : Nat) (x y : GenState) : (a.setIfInBounds i x).setIfInBounds i y = a.setIfInBounds i y := by
  simp
theorem gen_item {pos : Nat} {ch : List Nat} {rest : List (Nat × List Nat)} {Q : Option Value → Shared → Prop} (hh : A.handled = none) (hl : s.heap.NoLimit) (hroom : A.depth < recursionLimit)
    (k₀ : h₀.StaysIn s.heap) (I : GenAt w A h₀ Lg g all ((pos, ch) :: rest) s)
    (hQ : ∀ s' T tp tc, GMv Lg g s s' → IsTup s'.heap T #[.int ((pos : Nat) : Int) tp, .str ⟨⟨ch⟩⟩ tc] → GenAt w A h₀ Lg g all rest s' → Q (some (.ref T)) s') :
    wpAny (model PR w) A (pyNext (.ref (Lg + 1))) Q E s := by
  obtain ⟨gs, hgs, hgo⟩ := I.st
  obtain ⟨pre, suf⟩ := I.suf
  refine gen_wake hh hl hroom I.obj hgs (hgo _ (own_self k₀)) (fun v s₁ gs' hb hv => ?_) (fun s₁ hn => by cases hn)
  refine byG fun G9 k9 => ?_; rcases hv with ⟨T, pos', ch', tp, tc, hi, rfl, hT, ⟨h', tk, rfl, hk⟩, kap⟩; all_goals (refine k9 ?_; clear k9 G9)
  have hi' : all[all.length - 1 - rest.length]? = some (pos, ch) := by
    rw [suf]
    simp
  have e := hi.symm.trans hi'
  cases e
  refine hQ _ T tp tc ⟨h', tk, gs', ?_, hb, hk⟩ hT ⟨?_, ⟨gs', ?_, kap⟩, ⟨pre ++ [(pos, ch)], by simp [suf]⟩⟩
  · show (⟨h', (s.gens.setIfInBounds g .running).setIfInBounds g gs', s.drawn, tk, s.os⟩ : Shared) = _
    rw [set_set]
  · refine byG fun G9 k9 => ?_; rcases I.obj with ⟨o, nm, qn, ho, r⟩; all_goals (refine k9 ?_; clear k9 G9)
    exact ⟨o, nm, qn, hk _ _ (.inr rfl) ho, r⟩
  · show ((s.gens.setIfInBounds g .running).setIfInBounds g gs')[g]? = some gs'
    rw [set_set]
    have : g < s.gens.size := by
      have := Array.getElem?_eq_some_iff.mp hgs
      exact this.1
    simp [this]
theorem gen_done {Q : Option Value → Shared → Prop} (hh : A.handled = none) (hl : s.heap.NoLimit) (hroom : A.depth < recursionLimit)
    (k₀ : h₀.StaysIn s.heap) (hlt : ∀ (b : Nat) o, h₀.get? b = some o → b < Lg) (I : GenAt w A h₀ Lg g all [] s)
    (hQ : ∀ s', GMv Lg g s s' → Q none s') : wpAny (model PR w) A (pyNext (.ref (Lg + 1))) Q E s := by
  obtain ⟨gs, hgs, hgo⟩ := I.st
  refine gen_wake hh hl hroom I.obj hgs (hgo _ (own_self k₀)) (fun v s₁ gs' hb hv => ?_) (fun s₁ hn hm h' k => ?_)
  · refine byG fun G9 k9 => ?_; rcases hv with ⟨T, pos', ch', tp, tc, hi, rfl, hT, ⟨h', tk, rfl, hk⟩, kap⟩; all_goals (refine k9 ?_; clear k9 G9)
    exact (kap _ (own_self fun b o e => hk b o (.inl (hlt b o e)) (k₀ b o e))).elim
  · obtain ⟨h1, tk, rfl, hk⟩ := hm
    refine hQ _ ⟨h', tk, .finished, ?_, rfl, fun b o hb e => k b o (hk b o hb e)⟩
    show (⟨h', (s.gens.setIfInBounds g .running).setIfInBounds g .finished, s.drawn, tk, s.os⟩ : Shared) = _
    rw [set_set]
end
-- G4
theorem stg4_0 {x0 x1 x2 x3 x4 x5 x6} (h : wpAny x0 x1 (call (Value.type "enumerate") x2 x3) x4 x5 x6) : wpAny x0 x1 (call (Value.type "enumerate") x2 x3) x4 x5 x6 := h
local macro_rules | `(tactic| walk_at "mine stop") => `(tactic| with_reducible refine stg4_0 ?_)
section
variable {w : World} {pp : Program} {loose : List Str} {mg mb : Str → Option Value} {h₀ : Heap} {dp un : Nat} {fr : Option (List Env)} {gd : Option (List Code)} {s : Shared}

theorem g_start {Lg : Nat} {G0 : Obj} {x : Str} {t : Tok}
    (X : (hd.heap_39 w.params).In h₀) (T : TopRead pp loose mg mb h₀) (hh : ∀ (b : Nat) o, h₀.get? b = some o → b < Lg) (ha : x.cps.all (· < 128) = true)
    {m : Str → Option Value} (hm : m (Str.ofString "addr") = some (.str x t)) {s : Shared} {g : Heap} (I : GIn h₀ Lg G0 (hd.heap_39 w.params) pp loose mg mb s s g m []) :
    Seg (model PR w) (AA dp un fr gd) (GR Lg) (GY h₀ Lg (escs 0 false x.cps.toList)) (escs 0 false x.cps.toList).length s (.func gBody (gEnv Lg)) ((model PR w).den (.func gBody (gEnv Lg))) [] s := by
  refine seg_func ?_
  have X' := I.X
  have T' := I.T
  have F' := I.F
  have N' := I.N
  refine seg_stmt ?_
  show wpAny _ _ _ _ _ _
  k_fold
  walk_at "mine go"
  refine seg_stmt ?_
  clear qk ek
  show wpAny _ _ _ _ _ _
  k_fold
  walk_at "mine go"
  refine seg_For ?_
  clear qk ek
  show wpAny _ _ _ _ _ _
  k_fold
  walk_at "mine go"
  rename Fr _ _ _ _ => F1
  rename News _ _ _ _ => N1
  rename_i hA hB
  refine call_enumerate_str fun h2 he hit hsz hk2 => ?_
  have hgt : @LT.lt Nat _ (Lg + 1) hB.objs.size := Heap.lt_size (N1 _ (.head _)).1
  have F2 := fr_stays F1 hk2
  have N2 := news_stays N1 hk2
  obtain ⟨io, hio, hic, hid⟩ := hit
  rw [show strIterType x = "str_ascii_iterator" from by rw [strIterType, if_pos ha]] at hic
  refine wpAny_pyIter_enum he ?_
  intro p
  have I2 := fun tk => I.turn (tk := tk) F2 (news' := [(hB.objs.size + 1, { cls := .type "enumerate", dict := none, data := .fields #[.none, .bool false, .ref hB.objs.size, rawInt ((0 : Nat) : Int), .none, .none], slots := #[] }), (hB.objs.size, io)])
    (List.forall_mem_cons.mpr ⟨N2 _ (.head _), List.forall_mem_cons.mpr ⟨⟨he, Nat.ne_of_gt (by omega), I.none (by omega)⟩, List.forall_mem_cons.mpr ⟨⟨hio, Nat.ne_of_gt (by omega), I.none (by omega)⟩, fun _ q => nomatch q⟩⟩⟩)
  have b1 : @LT.lt Nat _ Lg (hB.objs.size + 1) := by exact (Nat.lt_trans (Nat.lt_trans (Nat.lt_add_of_pos_right (by decide)) hgt) (Nat.lt_add_of_pos_right (by decide)))
  have b2 : @LT.lt Nat _ Lg hB.objs.size := by exact (Nat.lt_trans (Nat.lt_add_of_pos_right (by decide)) hgt)
  have b3 : @Ne Nat (hB.objs.size + 1) (Lg + 1) := by exact Nat.ne_of_gt (Nat.lt_trans hgt (Nat.lt_add_of_pos_right (by decide)))
  have b4 : @Ne Nat hB.objs.size (Lg + 1) := by exact Nat.ne_of_gt hgt
  refine g_loop X T (Nat.succ_ne_self _) b1 b2 b3 b4 hh x.cps.toList 0 false s _ _ _ _ _ rfl (Nat.zero_le _) (fun q => nomatch q) ⟨[], rfl⟩ ?_ (fun q => absurd q (Nat.lt_irrefl 0)) (I2 _) hic hid
  rfl

/-- the call of the generator function -/
theorem gen_make {x : Str} {t : Tok} {Q : Value → Shared → Prop} (k₀ : h₀.StaysIn s.heap) (X : (hd.heap_39 w.params).In h₀) (T : TopRead pp loose mg mb h₀) (hroom : dp < recursionLimit) (ha : x.cps.all (· < 128) = true)
    (h : ∀ h' tk c Lg, Lg = s.heap.objs.size → s.heap.StaysIn h' → GenAt w (AA dp un fr gd) h₀ Lg s.gens.size (escs 0 false x.cps.toList) (escs 0 false x.cps.toList) { s with heap := h', toks := tk, gens := s.gens.push (.fresh c) } →
      Q (.ref (Lg + 1)) { s with heap := h', toks := tk, gens := s.gens.push (.fresh c) }) :
    wpAny (model PR w) (AA dp un fr gd) (call (.ref 48) [.str x t]) Q NoE s := by
  refine wpAny_call ?_
  refine codeAny_call_generator (body := gBody) hroom (k₀ _ _ (X 48 _ (by k_is))) rfl rfl rfl rfl (codeRec_of (X.keeps k₀) (by k_is)) ?_
  refine wpAny_of_eq (a := [(Str.ofString "addr", .str x t)]) rfl ?_
  refine wpAny_newFunctionEnv (by decide) (locs rfl) (fun h' hns hsb => ⟨(T.keeps k₀).nolimit.fresh _ hsb, ?_⟩) rfl
  have hsz : h'.objs.size = s.heap.objs.size + 1 := by rw [hsb.1, Heap.size_push]
  have hst : s.heap.StaysIn h' := fun b o e => hsb.extBut b o (Nat.ne_of_lt (Heap.lt_size e)) (Heap.get?_push_of_some _ e)
  have hG : ∀ o : Obj, o.isFreed = false → (h'.push o).get? (s.heap.objs.size + 1) = some o := fun o ho => by
    have := Heap.get?_push_size h' ho
    rw [hsz] at this; exact this
  have hst2 : ∀ o : Obj, s.heap.StaysIn (h'.push o) := fun o b ob e => Heap.get?_push_of_some _ (hst b ob e)
  show Q (.ref h'.objs.size) _
  rw [hsz]
  refine h _ _ _ _ rfl (hst2 _) ⟨⟨_, _, _, hG _ rfl, rfl, rfl, rfl⟩, ⟨.fresh (.func gBody (gEnv s.heap.objs.size)), by simp; rfl, fun s'' O => ⟨rfl, ?_⟩⟩, ⟨[], rfl⟩⟩
  have hlt : ∀ (b : Nat) o, h₀.get? b = some o → b < s.heap.objs.size := fun b o e => Heap.lt_size (k₀ b o e)
  have st : h₀.StaysIn (trunc s.heap.objs.size s''.heap) := fun b o e => by rw [trunc_get (hlt b o e)]; exact O.1 b o e
  refine g_start X T hlt ha (m := fun y => List.lookup y [(Str.ofString "addr", .str x t)].reverse) rfl ⟨trunc_size _ _, X.keeps st, T.keeps st, fun b o hb e => by rw [trunc_get hb]; exact e, O.2 _ _ (Nat.le_succ _) (hG _ rfl), ?_, ?_, ⟨_, _, rfl⟩⟩
  · refine byG fun G9 k9 => ?_; rcases hns with ⟨oL, es, ep, hL, r⟩; all_goals (refine k9 ?_; clear k9 G9)
    refine ⟨⟨oL, es, ep, O.2 _ _ (Nat.le_refl _) (Heap.get?_push_of_some _ hL), r⟩, fun b o e => ?_, trunc_size _ _⟩
    by_cases hb : @LT.lt Nat _ b s.heap.objs.size
    · rw [trunc_get hb] at e; exact e
    · rw [trunc_none (Nat.le_of_not_lt hb)] at e; cases e
  · intro q hq
    refine memc hq ?_ fun q hq => ?_
    · exact ⟨O.2 _ _ (Nat.le_succ _) (hG _ rfl), Nat.succ_ne_self _, trunc_none (Nat.le_succ _)⟩
    · exact nomatch hq
end
-- G5
theorem stg5_0 {x0 x1 x2 x3 x4 x5 x6} (h : wpAny x0 x1 (call (Value.ref 48) x2 x3) x4 x5 x6) : wpAny x0 x1 (call (Value.ref 48) x2 x3) x4 x5 x6 := h
local macro_rules | `(tactic| walk_at "mine stop") => `(tactic| with_reducible refine stg5_0 ?_)
local macro_rules | `(tactic| walk_at "call builtin:len") => `(tactic| ((with_reducible show wpAny _ _ (call (Value.builtin _) [Value.str _ _]) _ _ _); refine' PyProof.Rows.len_str ?k1 ?_; (case k1 => with_reducible assumption)))
noncomputable def mkS (l : List Nat) : Str := ⟨⟨l⟩⟩
theorem join_mkS : ∀ acc : List (List Nat), Str.join (Str.ofString "") (acc.map mkS) = mkS acc.flatten
  | [] => rfl
  | [a] => by show mkS a = _; simp
  | a :: b :: r => by
    have ih := join_mkS (b :: r)
    show mkS a ++ Str.ofString "" ++ Str.join (Str.ofString "") ((b :: r).map mkS) = _
    rw [ih]
    apply Str.ext'
    have e : (Str.ofString "").cps = #[] := rfl
    rw [Str.cps_append, Str.cps_append, e]
    apply Array.toList_inj.mp
    simp [mkS]
theorem sum_le {B : Nat} : ∀ (acc : List (List Nat)), (∀ l ∈ acc, l.length ≤ B) → (acc.map (·.length)).sum ≤ acc.length * B
  | [], _ => Nat.zero_le _
  | a :: r, h => by
    have h1 := h a (.head _)
    have h2 := sum_le r fun l hl => h l (.tail _ hl)
    rw [List.map_cons, List.sum_cons, List.length_cons, Nat.succ_mul]
    exact ar165 h1 h2
theorem join_own {prog : Program} {w : World} {A : Around} {E : Value → Shared → Prop} {s : Shared} {Q : Value → Shared → Prop} {D : Addr} {vs : List Value} {acc : List (List Nat)} {t : Tok} {B : Nat} (hl : s.heap.IsList D vs.toArray) (hi : StrsAre vs (acc.map mkS)) (hB : ∀ l ∈ acc, l.length ≤ B) (hw : acc.length * B + acc.length ≤ 1048576)
    (h : ∀ t' k, Q (.str (mkS acc.flatten) t') { s with toks := k }) : wpAny (model prog w) A (call (.builtin "str.join") [.str (Str.ofString "") t, .ref D]) Q E s := by
  refine join_listW hl hi (Nat.zero_le _) ?_ fun t' k => ?_
  · have := sum_le acc hB
    rw [List.map_map, List.length_map]
    show (acc.map (·.length)).sum + acc.length ≤ _
    exact ar166 hw this
  · show Q (.str (Builtin.Str.glued (Str.ofString "") (acc.map mkS)) t') _
    rw [StrLaws.glued_eq_join, join_mkS]
    exact h t' k
/-- the objects from Lg on -/
noncomputable def above (Lg : Nat) (h : Heap) : List (Addr × Obj) := (List.range h.objs.size).filterMap fun b => if Lg ≤ b then (h.get? b).map fun o => (b, o) else none
theorem mem_above {Lg : Nat} {h : Heap} {q : Addr × Obj} : q ∈ above Lg h ↔ @LE.le Nat _ Lg q.1 ∧ h.get? q.1 = some q.2 := by
  unfold above
  rw [List.mem_filterMap]
  constructor
  · rintro ⟨b, hb, e⟩
    split at e
    · rename_i hl
      cases q' : h.get? b with
      | none => rw [q'] at e; cases e
      | some o => rw [q'] at e; cases e; exact ⟨hl, q'⟩
    · cases e
  · rintro ⟨hl, e⟩
    exact ⟨q.1, List.mem_range.mpr (Heap.lt_size e), by rw [if_pos hl, e]; rfl⟩

section
variable {w : World} {A : Around} {g : Heap} {L : Addr} {s : Shared}
theorem letOwned_gen {Lg gi : Nat} {T : Value} {elts : List Expr} {k : Nat} {pos : Pos} {E : Value → Shared → Prop} {Q : Unit → Shared → Prop} (hg : s.heap.IsGen (Lg + 1) gi) (h : Q () s) :
    wpAny (model PR w) A (letOwnedTupleGo (.Tuple elts k pos) (.ref (Lg + 1)) T) Q E s := by
  refine byG fun G9 k9 => ?_; rcases hg with ⟨o, nm, qn, ho, hc, hd, hsl⟩; all_goals (refine k9 ?_; clear k9 G9)
  unfold letOwnedTupleGo
  cases T with
  | ref a =>
    refine wpAny_bind (wpAny_load ho ?_)
    obtain ⟨c, d, dt, sl⟩ := o
    dsimp only at hc hd
    subst hc hd
    exact wpAny_pure h
  | _ => exact wpAny_pure h

theorem bare_set {a : Array GenState} {i : Nat} {x : GenState} (h : AllBare a) (hx : x.bare = true) : AllBare (a.setIfInBounds i x) := by
  intro y hy
  rw [Array.mem_iff_getElem?] at hy
  obtain ⟨j, hj⟩ := hy
  rw [Array.getElem?_setIfInBounds] at hj
  split at hj
  · split at hj
    · cases hj; exact hx
    · cases hj
  · exact h y (Array.mem_of_getElem? hj)
theorem bare_push {a : Array GenState} {x : GenState} (h : AllBare a) (hx : x.bare = true) : AllBare (a.push x) := by
  intro y hy
  rcases Array.mem_push.mp hy with hy | rfl
  · exact h y hy
  · exact hx

/-- for pos, ch in a generator of ours -/
theorem for_gen {Lg gi : Nat} {all : List (Nat × List Nat)} {xi xc : Str} {pi pc pt : Pos} {k : Nat} {body : List Stmt} {cn : Str} {cs : Scope} {a : Addr} {cd : Value} {Q : Flow → Shared → Prop} {R : Result → Shared → Prop}
    {m : Str → Option Value} {news : List (Addr × Obj)} (J : List (Nat × List Nat) → (Str → Option Value) → List (Addr × Obj) → Prop)
    (hh : A.handled = none) (hroom : A.depth < recursionLimit) (hl : g.NoLimit) (F : Fr g L s.heap m) (N : News g L s.heap news) (hL : @LT.lt Nat _ L Lg) (hn : ∀ q ∈ news, @LT.lt Nat _ q.1 Lg)
    (I : GenAt w A g Lg gi all all s) (hJ : J all m news) (hR : ∀ f s', Q f s' → R (.ok f) s')
    (turn : ∀ pos ch rest m₁ news₁ privs h₁ tk₁ gs₁ tp tc, J ((pos, ch) :: rest) m₁ news₁ → (AllBare s.gens → AllBare gs₁) →
      Fr g L h₁ (fun y => if y = xc then some (.str ⟨⟨ch⟩⟩ tc) else if y = xi then some (.int ((pos : Nat) : Int) tp) else m₁ y) → News g L h₁ (news₁ ++ privs) → (∀ q ∈ news₁, ∀ r ∈ privs, r.1 ≠ q.1) →
      ∀ Jp : Shared → Prop, LpK (TurnG g L gs₁ s.drawn s.os privs news₁ (J rest)) Jp → wpAny (model PR w) A (execs body (envOf cn cs L a cd)) (BodyK Jp Q) NoE ⟨h₁, gs₁, s.drawn, tk₁, s.os⟩)
    (done : ∀ m₁ news₁ h₁ tk₁ gs₁, J [] m₁ news₁ → (AllBare s.gens → AllBare gs₁) → Fr g L h₁ m₁ → News g L h₁ news₁ → Q .next ⟨h₁, gs₁, s.drawn, tk₁, s.os⟩)
    (hcs : cs.kind = .function := by rfl) (hi : (envOf cn cs L a cd).kindOf xi = some .local := by rfl) (hc : (envOf cn cs L a cd).kindOf xc = some .local := by rfl) :
    wpAny (model PR w) A (pyIter (.ref (Lg + 1))) (fun it s₂ => codeAny (model PR w) A (.forLoop (.Tuple [.Name xi pi, .Name xc pc] k pt) it body [] (envOf cn cs L a cd)) R s₂) NoE s := by
  refine wpAny_pyIter_gen I.obj ?_
  have gb : ∀ (b : Nat) o, g.get? b = some o → b < Lg := fun b o e => Nat.lt_of_lt_of_le (Heap.lt_size e) (Nat.le_trans F.above (Nat.le_of_lt hL))
  have gnone : ∀ (b : Nat), Lg ≤ b → g.get? b = none := fun b hb => by
    cases q : g.get? b with
    | none => rfl
    | some o => exact absurd (gb b o q) (Nat.not_lt.mpr hb)
  have move : ∀ {s s' : Shared} {m news}, Fr g L s.heap m → News g L s.heap news → (∀ q ∈ news, @LT.lt Nat _ q.1 Lg) → GMv Lg gi s s' → Fr g L s'.heap m ∧ News g L s'.heap news := by
    rintro s s' m news F N hn ⟨h', tk, gs', rfl, hb, hk⟩
    refine byG fun G9 k9 => ?_; rcases F.ns with ⟨oL, es, ep, hLL, r⟩; all_goals (refine k9 ?_; clear k9 G9)
    exact ⟨⟨⟨oL, es, ep, hk _ _ (.inl hL) hLL, r⟩, fun b o e => hk b o (.inl (gb b o e)) (F.keep b o e), F.above⟩, fun q hq => ⟨hk _ _ (.inl (hn q hq)) (N q hq).1, (N q hq).2⟩⟩
  refine for_own (Q := Q) (fun n s' => ∃ items m news h tk gs, n = items.length ∧ s' = ⟨h, gs, s.drawn, tk, s.os⟩ ∧ Fr g L h m ∧ News g L h news ∧ (∀ q ∈ news, @LT.lt Nat _ q.1 Lg) ∧ GenAt w A g Lg gi all items s' ∧ (AllBare s.gens → AllBare gs) ∧ J items m news)
    all.length ⟨all, m, news, s.heap, s.toks, s.gens, rfl, rfl, F, N, hn, I, id, hJ⟩ hR ?_
  rintro n s' ⟨items, m₁, news₁, h₁, tk₁, gs₁, rfl, rfl, F₁, N₁, hn₁, I₁, hb₁, J₁⟩ Jp kJ
  cases items with
  | nil =>
    refine gen_done hh (hl.keeps F₁.keep) hroom F₁.keep gb I₁ fun s' G => ?_
    obtain ⟨F₂, N₂⟩ := move F₁ N₁ hn₁ G
    refine byG fun G9 k9 => ?_; rcases G with ⟨h', tk, gs', rfl, hb, hk⟩; all_goals (refine k9 ?_; clear k9 G9)
    exact done _ _ _ _ _ J₁ (fun b => bare_set (hb₁ b) hb) F₂ N₂
  | cons it rest =>
    obtain ⟨pos, ch⟩ := it
    refine gen_item hh (hl.keeps F₁.keep) hroom F₁.keep I₁ fun s' T tp tc G hT I₂ => ?_
    obtain ⟨F₂, N₂⟩ := move F₁ N₁ hn₁ G
    refine byG fun G9 k9 => ?_; rcases G with ⟨h', tk, gs', rfl, hb, hk⟩; all_goals (refine k9 ?_; clear k9 G9)
    refine letOwned_gen I₂.obj ?_
    have N₃ : News g L h' (news₁ ++ above Lg h') := fun q hq => by
      rcases List.mem_append.mp hq with hq | hq
      · exact N₂ q hq
      · have := mem_above.mp hq
        exact ⟨this.2, fun e => absurd this.1 (Nat.not_le.mpr (by rw [e]; exact hL)), gnone _ this.1⟩
    refine unpackN_ F₂ N₃ hT hh rfl rfl fun h₃ F₃ N₄ => ?_
    refine assignInOrder_cons (assign_Name (stN F₃ N₄ (fun h₄ F₄ N₅ => ?_) hcs hi))
    refine assignInOrder_cons (assign_Name (stN F₄ N₅ (fun h₅ F₅ N₆ => ?_) hcs hc))
    refine assignInOrder_nil ?_
    refine turn pos ch rest m₁ news₁ (above Lg h') h₅ _ _ tp tc J₁ (fun b => bare_set (hb₁ b) hb) F₅ N₆ (fun q hq r hr e => ?_) Jp ⟨fun s₃ => ?_⟩
    · have h1 := hn₁ q hq
      have h2 := (mem_above.mp hr).1
      rw [e] at h2
      exact absurd h1 (Nat.not_lt.mpr h2)
    · rintro ⟨h'', tk', m', news', e, F₇, N₇, hm, J₇⟩
      have eg : s₃.gens = gs₁.setIfInBounds gi gs' := by rw [e]
      have e : s₃ = ⟨h'', s₃.gens, s.drawn, tk', s.os⟩ := by rw [e]
      refine kJ.h _ ⟨rest.length, Nat.lt_succ_self _, rest, m', news', h'', tk', _, rfl, e, F₇, fun q hq => N₇ q (List.mem_append_left _ hq), fun q hq => ?_, ?_, fun b => by rw [eg]; exact bare_set (hb₁ b) hb, J₇⟩
      · have : q.1 ∈ news'.map (·.1) := List.mem_map_of_mem hq
        rw [hm] at this
        obtain ⟨r, hr, e⟩ := List.mem_map.mp this
        rw [← e]; exact hn₁ r hr
      · refine I₂.keep eg fun b o hb e' => ?_
        have : s₃.heap = h'' := by rw [e]
        rw [this]
        exact (N₇ (b, o) (List.mem_append_right _ (mem_above.mpr ⟨hb, e'⟩))).1
end
-- P1
noncomputable def strGo (a : List Nat) : List (Nat × List Nat) → Nat → Option Nat → List (List Nat) → Nat × List (List Nat)
  | [], st, _, acc => (st, acc)
  | (p, ch) :: r, st, op, acc => if ch = [34] then (match op with
      | none => strGo a r st (some p) acc
      | some o => strGo a r (p + 1) none (if st = o then acc else acc ++ [(a.drop st).take (o - st)])) else strGo a r st op acc
noncomputable def stripQ (a : List Nat) : List Nat := if a.contains 34 then
    (let r := strGo a (escs 0 false a) 0 none []
     (if r.1 < a.length then r.2 ++ [a.drop r.1] else r.2).flatten) else a

def Inc (len : Nat) : Nat → List (Nat × List Nat) → Prop
  | _, [] => True
  | lo, (p, _) :: r => lo ≤ p ∧ p < len ∧ Inc len (p + 1) r
theorem escs_92 (i : Nat) (r : List Nat) : escs i false (92 :: r) = escs (i + 1) true r := by rw [escs, if_pos rfl]
theorem escs_ne {c : Nat} (h : c ≠ 92) (i : Nat) (r : List Nat) : escs i false (c :: r) = (i, [c]) :: escs (i + 1) false r := by rw [escs, if_neg h]
theorem inc_escs : ∀ (rest : List Nat) (i : Nat) (esc : Bool), (esc = true → 0 < i) → Inc (i + rest.length) (if esc then i - 1 else i) (escs i esc rest)
  | [], i, false, _ => trivial
  | [], i, true, h => by have := h rfl; exact ⟨Nat.le_refl _, by simp; exact ar200 this, trivial⟩
  | c :: r, i, true, _ => by
    have := inc_escs r (i + 1) false (fun q => nomatch q)
    refine ⟨by simp, by simp, ?_⟩
    rw [show i + (c :: r).length = i + 1 + r.length from by simp; exact ar201]
    exact this
  | c :: r, i, false, _ => by
    rw [show i + (c :: r).length = i + 1 + r.length from by simp; exact ar201]
    by_cases hc : c = 92
    · subst hc
      rw [escs_92]
      exact inc_escs r (i + 1) true (fun _ => Nat.succ_pos i)
    · rw [escs_ne hc]
      exact ⟨Nat.le_refl _, by exact ar202, inc_escs r (i + 1) false (fun q => nomatch q)⟩
theorem escs_length : ∀ (rest : List Nat) (i : Nat) (esc : Bool), (escs i esc rest).length ≤ rest.length + 1
  | [], i, esc => by unfold escs; split <;> simp
  | c :: r, i, true => by have := escs_length r (i + 1) false; simp [escs]; omega
  | c :: r, i, false => by
    unfold escs
    split
    · have := escs_length r (i + 1) true; simp; exact ar203 this
    · have := escs_length r (i + 1) false; simp; omega
theorem quote_eq {l : List Nat} : ((Str.mk ⟨l⟩ == Str.ofString "\"") = true) ↔ l = [34] := by
  rw [show Str.ofString "\"" = Str.mk ⟨[34]⟩ from rfl, beq_iff_eq]
  constructor
  · intro h; injection h with h; injection h
  · rintro rfl; rfl
theorem mkS_eq {x : Str} : mkS x.cps.toList = x := rfl
theorem slice_nat {x : Str} {i j : Nat} (h1 : i ≤ j) (h2 : j ≤ x.cps.size) : Txt.slice x (some (i : Int)) (some (j : Int)) = mkS ((x.cps.toList.drop i).take (j - i)) := by
  have := eq_of_beq (slice_closesL (x := x) (i := i) (j := j) (by exact ar37) (by exact ar204 h1) (by show (j : Int) ≤ ((x.cps.size : Nat) : Int); exact ar204 h2))
  rw [this]
  unfold mkS
  rw [show ((j : Int) - i).toNat = j - i from by exact ar205]
  rfl
theorem slice_natE {x : Str} {i : Nat} (h2 : i ≤ x.cps.size) : Txt.slice x (some (i : Int)) none = mkS (x.cps.toList.drop i) := by
  rw [slice_from_eq (by omega) (by show (i : Int) ≤ ((x.cps.size : Nat) : Int); exact ar204 h2) rfl]
  unfold mkS
  rw [List.take_of_length_le]
  · rfl
  · simp [Str.length]

section
variable {w : World} {pp : Program} {loose : List Str} {mg mb : Str → Option Value} {h₀ : Heap} {dp un : Nat} {fr : Option (List Env)} {gd : Option (List Code)} {s : Shared} {Q : Value → Shared → Prop}

inductive StripI (x : Str) (tx : Tok) (rs : Addr) (items : List (Nat × List Nat)) (m : Str → Option Value) (news : List (Addr × Obj)) : Prop
  | mk (st : Nat) (op : Option Nat) (acc : List (List Nat)) (vs : List Value) (n lo : Nat) (t1 : Tok) (ma : m (Str.ofString "addr") = some (.str x tx)) (ms : m (Str.ofString "start") = some (.int ((st : Nat) : Int) t1))
    (mo : match op with | none => m (Str.ofString "open_pos") = some .none | some (o : Nat) => (st ≤ o ∧ o < lo) ∧ ∃ t, m (Str.ofString "open_pos") = some (.int (o : Int) t))
    (mr : m (Str.ofString "result") = some (.ref rs)) (e : news = [(rs, listOf vs.toArray n)]) (hv : StrsAre vs (acc.map mkS)) (hi : Inc x.cps.size lo items) (hs : st ≤ lo) (hl : ∀ l ∈ acc, l.length ≤ x.cps.size) (hn : acc.length + items.length ≤ 1001)
    (hg : strGo x.cps.toList items st op acc = strGo x.cps.toList (escs 0 false x.cps.toList) 0 none [])
set_option maxHeartbeats 1000000 in
theorem strip_spec {x : Str} {tx : Tok}
    (k₀ : h₀.StaysIn s.heap) (X : (hd.heap_39 w.params).In h₀) (T : TopRead pp loose mg mb h₀) (hroom : dp + 1 < recursionLimit)
    (ha : x.cps.all (· < 128) = true) (hn : x.cps.size < 1000)
    (h : ∀ t h' tk g', s.heap.StaysIn h' → (AllBare s.gens → AllBare g') → Q (.str (mkS (stripQ x.cps.toList)) t) { s with heap := h', toks := tk, gens := g' }) :
    wpAny (model PR w) (AA dp un fr gd) (call (.ref 55) [.str x tx]) Q NoE s := by
  refine' enterM (binds := [(Str.ofString "addr", .str x tx)]) [] ?k ?X ?T ?hm ?ho ?hcd ?hroom ?hb ?hloc ?_ ?c2 ?c3 ?c4 ?c5
  case k => exact k₀
  case X => exact X
  case T => exact T
  case hm => exact fun _ q => nomatch q
  case ho => k_is
  case hcd => k_is
  case hroom => exact Nat.lt_of_succ_lt hroom
  case hb => exact BindsTo.of_eq rfl
  case hloc => exact locs rfl
  case c2 => rfl
  case c3 => rfl
  case c4 => rfl
  case c5 => decide
  intro g L h₁ kg bg og F N Xg Tg
  have fin : ∀ t h' tk g', g.StaysIn h' → (AllBare s.gens → AllBare g') → Q (.str (mkS (stripQ x.cps.toList)) t) { s with heap := h', toks := tk, gens := g' } := fun t h' tk g' k => h t h' tk g' fun b o e => k b o (bg.nil b o e)
  clear h k₀ bg og kg T X
  have hxf : ¬ ((x.length : Int) ≥ 2 ^ 63) := by show ¬ ((x.cps.size : Int) ≥ _); exact ar206 hn
  have hxs : x.length ≤ sizeLine := by rw [sizeLine_eq]; show x.cps.size ≤ _; exact (Nat.le_of_lt (Nat.lt_trans hn (by decide : 1000 < 16777216)))
  show wpAny _ _ _ _ _ _
  k_fold
  walk_at "mine go"
  · rename (Builtin.Str.occurrences x (Str.ofString "\"") 0 x.length 1).isEmpty = true => hq
    have hq' : 34 ∉ x.cps.toList := by
      have := StrLaws.found_one x 34
      rw [show (⟨#[34]⟩ : Str) = Str.ofString "\"" from rfl, hq] at this
      simpa using this
    have e : stripQ x.cps.toList = x.cps.toList := by
      unfold stripQ
      rw [if_neg (by simpa using hq')]
    have e2 : mkS (stripQ x.cps.toList) = x := by rw [e]; rfl
    have := fun t tk => fin t h₁ tk s.gens F.keep id
    simp only [e2] at this
    exact this _ _
  · rename (Builtin.Str.occurrences x (Str.ofString "\"") 0 x.length 1).isEmpty = false => hq
    have hq' : 34 ∈ x.cps.toList := by
      have := StrLaws.found_one x 34
      rw [show (⟨#[34]⟩ : Str) = Str.ofString "\"" from rfl, hq] at this
      simpa using this
    rename Fr _ _ _ _ => F1
    rename News _ _ _ _ => N1
    refine wpAny_For ?_
    walk_at "mine go"
    refine gen_make F1.keep Xg Tg (by dsimp only [Around.deeper, AA]; omega) ha fun h2 tk2 c Lg hLg hst I => ?_
    rename_i rs _ _ _
    refine for_gen (StripI x tx rs) rfl (by dsimp only [Around.deeper, AA]; omega) Tg.nolimit (fr_stays F1 hst) (news_stays N1 hst) ?_ ?_ I ?_ (fun _ _ q => q) ?_ ?_
    · rw [hLg]; exact F1.ns.lt
    · rw [hLg]; exact List.forall_mem_cons.mpr ⟨Heap.lt_size (N1 _ (.head _)).1, fun _ q => nomatch q⟩
    · have h1 := inc_escs x.cps.toList 0 false (fun q => nomatch q)
      have h2 := escs_length x.cps.toList 0 false
      refine ⟨0, none, [], [], 0, 0, ?t1, ?_, ?b1, ?_, ?_, rfl, .nil, ?_, Nat.le_refl _, (fun _ q => nomatch q), ?_, rfl⟩
      case b1 => exact rfl
      · rfl
      · rfl
      · rfl
      · simpa using h1
      · simp at h2 ⊢; exact (Nat.le_trans (Nat.le_trans h2 (Nat.add_le_add (Nat.le_of_lt_succ hn) (Nat.le_refl 1))) (by decide))
    · rintro pos ch rest m₁ news₁ privs h₁ tk₁ gs₁ tp tc ⟨st, op, acc, vs, n, lo, t1, haddr, hst1, hop, hres, rfl, hvs, hinc, hlo, hlen, hcount, hgo⟩ hbare F2 N2 hne
      have hvz : vs.length ≤ sizeLine := by rw [sizeLine_eq, StrsAre.length hvs]; simp; exact ar207 hcount
      have hne' : ∀ p ∈ privs, p.1 ≠ rs := fun r hr => hne _ (.head _) r hr
      dsimp only [List.cons_append, List.nil_append] at N2
      obtain ⟨hp1, hp2, hinc⟩ := hinc
      have hcnt : acc.length + (rest.length + 1) ≤ 1001 := hcount
      cases op with
      | none =>
        dsimp only at hop
        walk_at "mine go"
        · rename (Str.mk ⟨ch⟩ == Str.ofString "\"") = true => hc
          rename Fr _ _ _ _ => F3
          rename News _ _ _ _ => N3
          obtain rfl := quote_eq.mp hc
          refine ⟨_, _, _, [(rs, listOf _ _)], rfl, F3, N3, rfl, st, some pos, acc, vs, n, pos + 1, t1, haddr, hst1, ⟨⟨by exact (Nat.le_trans hlo hp1), by exact (Nat.lt_add_of_pos_right (by decide))⟩, tp, rfl⟩, hres, rfl, hvs, hinc, by exact (Nat.le_of_lt (Nat.lt_of_le_of_lt (Nat.le_trans hlo hp1) (Nat.lt_add_of_pos_right (by decide)))), hlen, by exact ar208 hcnt, ?_⟩
          rw [← hgo, strGo, if_pos rfl]
        · rename (Str.mk ⟨ch⟩ == Str.ofString "\"") = false => hc
          have hc' : ch ≠ [34] := fun q => Bool.noConfusion ((quote_eq.mpr q).symm.trans hc)
          refine ⟨_, _, _, [(rs, listOf _ _)], rfl, F2, N2, rfl, st, none, acc, vs, n, pos + 1, t1, haddr, hst1, hop, hres, rfl, hvs, hinc, by exact (Nat.le_of_lt (Nat.lt_of_le_of_lt (Nat.le_trans hlo hp1) (Nat.lt_add_of_pos_right (by decide)))), hlen, by exact ar208 hcnt, ?_⟩
          rw [← hgo, strGo, if_neg hc']
      | some o =>
        dsimp only at hop
        obtain ⟨⟨hso, hol⟩, top, hop⟩ := hop
        walk_at "mine go"
        · rename (Str.mk ⟨ch⟩ == Str.ofString "\"") = true => hc
          rename ((st : Nat) : Int) ≠ o => hne2
          rename Fr _ _ _ _ => F3
          rename News _ _ _ _ => N3
          obtain rfl := quote_eq.mp hc
          rw [slice_nat hso (by exact (Nat.le_of_lt (Nat.lt_trans (Nat.lt_of_lt_of_le hol hp1) hp2))), List.push_toArray] at N3
          refine ⟨_, _, _, [(rs, listOf _ _)], rfl, F3, N3, rfl, pos + 1, none, acc ++ [(x.cps.toList.drop st).take (o - st)], _, _, pos + 1, _, haddr, rfl, rfl, hres, rfl, ?_, hinc, Nat.le_refl _, ?_, ?_, ?_⟩
          · rw [List.map_append]; exact StrsAre.append' hvs (.cons _ _ .nil)
          · intro l hl
            rcases List.mem_append.mp hl with hl | hl
            · exact hlen l hl
            · rw [List.mem_singleton.mp hl]; simp; exact ar209
          · simp; exact ar210 hcnt
          · rw [← hgo, strGo, if_pos rfl]
            rw [if_neg (show ¬ st = o by exact ar211 hne2)]
        · rename (Str.mk ⟨ch⟩ == Str.ofString "\"") = true => hc
          rename ((st : Nat) : Int) = o => he2
          rename Fr _ _ _ _ => F3
          rename News _ _ _ _ => N3
          obtain rfl := quote_eq.mp hc
          refine ⟨_, _, _, [(rs, listOf _ _)], rfl, F3, N3, rfl, pos + 1, none, acc, vs, n, pos + 1, _, haddr, rfl, rfl, hres, rfl, hvs, hinc, Nat.le_refl _, hlen, by exact ar208 hcnt, ?_⟩
          rw [← hgo, strGo, if_pos rfl]
          rw [if_pos (show st = o by exact ar69 he2)]
        · rename (Str.mk ⟨ch⟩ == Str.ofString "\"") = false => hc
          have hc' : ch ≠ [34] := fun q => Bool.noConfusion ((quote_eq.mpr q).symm.trans hc)
          refine ⟨_, _, _, [(rs, listOf _ _)], rfl, F2, N2, rfl, st, some o, acc, vs, n, pos + 1, t1, haddr, hst1, ⟨⟨hso, by exact (Nat.lt_trans (Nat.lt_of_lt_of_le hol hp1) (Nat.lt_add_of_pos_right (by decide)))⟩, top, hop⟩, hres, rfl, hvs, hinc, by exact (Nat.le_of_lt (Nat.lt_of_le_of_lt (Nat.le_trans hlo hp1) (Nat.lt_add_of_pos_right (by decide)))), hlen, by exact ar208 hcnt, ?_⟩
          rw [← hgo, strGo, if_neg hc']
    · rintro m₁ news₁ h₁ tk₁ gs₁ ⟨st, op, acc, vs, n, lo, t1, haddr, hst1, hop, hres, rfl, hvs, hinc, hlo, hlen, hcount, hgo⟩ hbare F2 N2
      have hvz : vs.length ≤ sizeLine := by rw [sizeLine_eq, StrsAre.length hvs]; simp; exact ar207 hcount
      have hcnt : acc.length ≤ 1001 := by simpa using hcount
      have hst : stripQ x.cps.toList = (if st < x.cps.toList.length then acc ++ [x.cps.toList.drop st] else acc).flatten := by
        unfold stripQ
        rw [if_pos (by simpa using hq')]
        simp only [← hgo, strGo]
      have hB : acc.length * x.cps.size ≤ 1001 * 999 := Nat.mul_le_mul hcnt (by exact (Nat.le_trans (Nat.le_of_lt_succ hn) (by decide)))
      walk_at "mine go"
      · rename ((st : Nat) : Int) < x.length => hlt
        have hlt' : st < x.cps.size := by have : (x.length : Int) = (x.cps.size : Int) := rfl; exact ar212 hlt this
        rename Fr _ _ _ _ => F3
        rename News _ _ _ _ => N3
        rw [slice_natE (by exact (Nat.le_of_lt hlt')), List.push_toArray] at N3
        rw [if_pos (by simpa using hlt')] at hst
        refine join_own (acc := acc ++ [x.cps.toList.drop st]) (B := x.cps.size) (isList_news N3 (.head _)) ?_ ?_ ?_ fun t' k => ?_
        · rw [List.map_append]; exact StrsAre.append' hvs (.cons _ _ .nil)
        · intro l hl
          rcases List.mem_append.mp hl with hl | hl
          · exact hlen l hl
          · rw [List.mem_singleton.mp hl]; simp
        · rw [List.length_append, List.length_singleton, Nat.succ_mul]; exact ar213 hn hcount hB
        · rw [← hst]
          exact fin _ _ _ _ F3.keep (fun b => hbare (bare_push b rfl))
      · rename ¬ ((st : Nat) : Int) < x.length => hlt
        have hlt' : ¬ st < x.cps.size := by have : (x.length : Int) = (x.cps.size : Int) := rfl; exact ar214 hlt this
        rw [if_neg (by simpa using hlt')] at hst
        refine join_own (acc := acc) (B := x.cps.size) (isList_news N2 (.head _)) hvs hlen (by exact ar215 hcount hB) fun t' k => ?_
        rw [← hst]
        exact fin _ _ _ _ F2.keep (fun b => hbare (bare_push b rfl))
end
-- P2
theorem strGo_inv {a : List Nat} : ∀ (items : List (Nat × List Nat)) (st : Nat) (op : Option Nat) (acc : List (List Nat)) (lo : Nat), Inc a.length lo items → st ≤ lo → st ≤ a.length → (∀ o, op = some o → st ≤ o ∧ o < lo) →
    acc.flatten.length ≤ st → (∀ c ∈ acc.flatten, c ∈ a) → (strGo a items st op acc).1 ≤ a.length ∧ (strGo a items st op acc).2.flatten.length ≤ (strGo a items st op acc).1 ∧ ∀ c ∈ (strGo a items st op acc).2.flatten, c ∈ a
  | [], st, op, acc, lo, _, _, h0, _, h1, h2 => ⟨h0, h1, h2⟩
  | (p, ch) :: r, st, op, acc, lo, hi, hlo, h0, hop, h1, h2 => by
    obtain ⟨i1, i2, i3⟩ := hi
    unfold strGo
    split
    · cases op with
      | none => exact strGo_inv r st (some p) acc (p + 1) i3 (by exact (Nat.le_of_lt (Nat.lt_of_le_of_lt (Nat.le_trans hlo i1) (Nat.lt_add_of_pos_right (by decide))))) h0 (fun o e => by cases e; exact ar216 hlo i1) h1 h2
      | some o =>
        obtain ⟨o1, o2⟩ := hop o rfl
        try dsimp only
        split
        · exact strGo_inv r (p + 1) none acc (p + 1) i3 (Nat.le_refl _) i2 (fun _ e => nomatch e) (by omega) h2
        · refine strGo_inv r (p + 1) none _ (p + 1) i3 (Nat.le_refl _) i2 (fun _ e => nomatch e) ?_ ?_
          · simp; simp at h1; exact ar217 i1 o1 o2 h1
          · intro c hc
            rw [List.flatten_append, List.mem_append] at hc
            rcases hc with hc | hc
            · exact h2 c hc
            · simp at hc
              exact List.mem_of_mem_drop (List.mem_of_mem_take hc)
    · exact strGo_inv r st op acc (p + 1) i3 (by exact (Nat.le_of_lt (Nat.lt_of_le_of_lt (Nat.le_trans hlo i1) (Nat.lt_add_of_pos_right (by decide))))) h0 (fun o e => by have := hop o e; exact ar218 i1 this) h1 h2
theorem stripQ_inv (a : List Nat) : (stripQ a).length ≤ a.length ∧ ∀ c ∈ stripQ a, c ∈ a := by
  unfold stripQ
  split
  · have h0 := inc_escs a 0 false (fun q => nomatch q)
    have := strGo_inv (a := a) (escs 0 false a) 0 none [] 0 (by simpa using h0) (Nat.le_refl _) (Nat.zero_le _) (fun _ e => nomatch e) (Nat.le_refl _) (fun _ q => nomatch q)
    generalize strGo a (escs 0 false a) 0 none [] = r at this
    obtain ⟨h0, h1, h2⟩ := this
    try dsimp only
    split
    · refine ⟨by simp at h1 ⊢; omega, fun c hc => ?_⟩
      rw [List.flatten_append, List.mem_append] at hc
      rcases hc with hc | hc
      · exact h2 c hc
      · simp at hc
        exact List.mem_of_mem_drop hc
    · exact ⟨by exact (Nat.le_trans h1 h0), h2⟩
  · exact ⟨Nat.le_refl _, fun _ h => h⟩
theorem stripQ_ascii {x : Str} (h : x.cps.all (· < 128) = true) : (mkS (stripQ x.cps.toList)).cps.all (· < 128) = true := by
  rw [Array.all_eq_true'] at h ⊢
  intro c hc
  exact h c (by have := (stripQ_inv x.cps.toList).2 c (by simpa [mkS] using hc); simpa using this)
theorem stripQ_size {x : Str} (h : x.cps.size < 1000) : (mkS (stripQ x.cps.toList)).cps.size < 1000 := by
  have := (stripQ_inv x.cps.toList).1
  simp at this
  show (stripQ x.cps.toList).length < 1000
  exact (Nat.lt_of_le_of_lt this h)

noncomputable def parGo : List (Nat × List Nat) → Int → Bool
  | [], o => decide (o = 0)
  | (_, ch) :: r, o => if ch = [40] then parGo r (o + 1) else if ch = [41] then (if o - 1 < 0 then false else parGo r (o - 1)) else parGo r o
noncomputable def checkP (a : List Nat) : Bool := parGo (escs 0 false (stripQ a)) 0

theorem one_eq {l : List Nat} {d : Nat} : ((Str.mk ⟨l⟩ == Str.mk ⟨[d]⟩) = true) ↔ l = [d] := by
  rw [beq_iff_eq]
  constructor
  · intro h; injection h with h; injection h
  · rintro rfl; rfl
theorem stp2_0 {x0 x1 x2 x3 x4 x5 x6} (h : wpAny x0 x1 (call (Value.ref 55) x2 x3) x4 x5 x6) : wpAny x0 x1 (call (Value.ref 55) x2 x3) x4 x5 x6 := h
local macro_rules | `(tactic| walk_at "mine stop") => `(tactic| with_reducible refine stp2_0 ?_)

section
variable {w : World} {pp : Program} {loose : List Str} {mg mb : Str → Option Value} {h₀ : Heap} {dp un : Nat} {fr : Option (List Env)} {gd : Option (List Code)} {s : Shared} {Q : Value → Shared → Prop}

inductive ParI (x : Str) (items : List (Nat × List Nat)) (m : Str → Option Value) (news : List (Addr × Obj)) : Prop
  | mk (o : Int) (t1 : Tok) (mo : m (Str.ofString "opens") = some (.int o t1)) (e : news = []) (h1 : -1000 ≤ o - items.length) (h2 : o + items.length ≤ 1001) (hg : parGo items o = checkP x.cps.toList)
set_option maxHeartbeats 1000000 in
theorem check_spec {x : Str} {tx : Tok}
    (k₀ : h₀.StaysIn s.heap) (X : (hd.heap_39 w.params).In h₀) (T : TopRead pp loose mg mb h₀) (hroom : dp + 2 < recursionLimit)
    (ha : x.cps.all (· < 128) = true) (hn : x.cps.size < 1000)
    (h : ∀ h' tk g', s.heap.StaysIn h' → (AllBare s.gens → AllBare g') → Q (.bool (checkP x.cps.toList)) { s with heap := h', toks := tk, gens := g' }) :
    wpAny (model PR w) (AA dp un fr gd) (call (.ref 62) [.str x tx]) Q NoE s := by
  refine' enterM (binds := [(Str.ofString "addr", .str x tx)]) [] ?k ?X ?T ?hm ?ho ?hcd ?hroom ?hb ?hloc ?_ ?c2 ?c3 ?c4 ?c5
  case k => exact k₀
  case X => exact X
  case T => exact T
  case hm => exact fun _ q => nomatch q
  case ho => k_is
  case hcd => k_is
  case hroom => exact Nat.lt_of_succ_lt (Nat.lt_of_succ_lt hroom)
  case hb => exact BindsTo.of_eq rfl
  case hloc => exact locs rfl
  case c2 => rfl
  case c3 => rfl
  case c4 => rfl
  case c5 => decide
  intro g L h₁ kg bg og F N Xg Tg
  have fin : ∀ h' tk g', g.StaysIn h' → (AllBare s.gens → AllBare g') → Q (.bool (checkP x.cps.toList)) { s with heap := h', toks := tk, gens := g' } := fun h' tk g' k => h h' tk g' fun b o e => k b o (bg.nil b o e)
  clear h k₀ bg og kg T X
  show wpAny _ _ _ _ _ _
  k_fold
  walk_at "mine go"
  refine' strip_spec ?k ?X ?T ?r ?a ?n ?_
  case k => exact Fr.keep (by k_asm)
  case X => assumption
  case T => assumption
  case r => first | assumption | (dsimp only [Around.deeper, AA]; omega)
  case a => assumption
  case n => assumption
  intro t' h' tk' g' k' b'; (try dsimp only at k' b'); have F' := fr_stays (by k_asm) k'; have N' := news_stays (by k_asm) k'; clear k'
  walk_at "mine go"
  rename Fr _ _ _ _ => F1
  rename News _ _ _ _ => N1
  rename AllBare _ → AllBare _ => hb1
  refine wpAny_For ?_
  walk_at "mine go"
  refine gen_make F1.keep Xg Tg (by dsimp only [Around.deeper, AA]; exact ar95 hroom) (stripQ_ascii ha) fun h2 tk2 c Lg hLg hst I => ?_
  refine for_gen (ParI x) rfl (by dsimp only [Around.deeper, AA]; exact ar95 hroom) Tg.nolimit (fr_stays F1 hst) (news_stays N1 hst) ?_ ?_ I ?_ (fun _ _ q => q) ?_ ?_
  · rw [hLg]; exact F1.ns.lt
  · exact fun _ q => nomatch q
  · have h2 := escs_length (stripQ x.cps.toList) 0 false
    have h3 := stripQ_size hn
    have h4 : (stripQ x.cps.toList).length < 1000 := h3
    refine ⟨0, ?t1, ?b1, rfl, ?_, ?_, rfl⟩
    case b1 => exact rfl
    · show _ ≤ (0 : Int) - ((escs 0 false (stripQ x.cps.toList)).length : Int)
      exact ar219 h2 h4
    · show (0 : Int) + ((escs 0 false (stripQ x.cps.toList)).length : Int) ≤ _
      exact ar220 h2 h4
  · rintro pos ch rest m₁ news₁ privs h₁ tk₁ gs₁ tp tc ⟨o, t1, hop, rfl, hlo, hhi, hgo⟩ hbare F2 N2 hne
    dsimp only [List.cons_append, List.nil_append] at N2
    have hl : ((((pos, ch) :: rest).length : Nat) : Int) = rest.length + 1 := by simp
    rw [hl] at hlo hhi
    walk_at "mine go"
    · rename (Str.mk ⟨ch⟩ == Str.ofString "(") = true => hc
      rename Fr _ _ _ _ => F3
      rename News _ _ _ _ => N3
      obtain rfl : ch = [40] := one_eq.mp hc
      refine ⟨_, _, _, [], rfl, F3, N3, rfl, o + 1, _, rfl, rfl, by exact ar221 hlo, by exact ar222 hhi, ?_⟩
      rw [← hgo, parGo, if_pos rfl]
    · rename (Str.mk ⟨ch⟩ == Str.ofString "(") = false => hc0
      rename (Str.mk ⟨ch⟩ == Str.ofString ")") = true => hc
      rename o - 1 < 0 => hneg
      rename Fr _ _ _ _ => F3
      obtain rfl : ch = [41] := one_eq.mp hc
      have e : checkP x.cps.toList = false := by rw [← hgo, parGo, if_neg (by decide), if_pos rfl, if_pos hneg]
      have := fun tk g' => fin _ tk g' F3.keep
      rw [e] at this
      exact this _ _ fun b => hbare (bare_push (hb1 b) rfl)
    · rename (Str.mk ⟨ch⟩ == Str.ofString "(") = false => hc0
      rename (Str.mk ⟨ch⟩ == Str.ofString ")") = true => hc
      rename ¬ o - 1 < 0 => hneg
      rename Fr _ _ _ _ => F3
      rename News _ _ _ _ => N3
      obtain rfl : ch = [41] := one_eq.mp hc
      refine ⟨_, _, _, [], rfl, F3, N3, rfl, o - 1, _, rfl, rfl, by exact ar223 hlo, by exact ar224 hhi, ?_⟩
      rw [← hgo, parGo, if_neg (by decide), if_pos rfl, if_neg hneg]
    · rename (Str.mk ⟨ch⟩ == Str.ofString "(") = false => hc0
      rename (Str.mk ⟨ch⟩ == Str.ofString ")") = false => hc
      have h0 : ch ≠ [40] := fun q => Bool.noConfusion ((one_eq.mpr q).symm.trans hc0)
      have h1 : ch ≠ [41] := fun q => Bool.noConfusion ((one_eq.mpr q).symm.trans hc)
      refine ⟨_, _, _, [], rfl, F2, N2, rfl, o, _, hop, rfl, by exact ar225 hlo, by exact ar226 hhi, ?_⟩
      rw [← hgo, parGo, if_neg h0, if_neg h1]
  · rintro m₁ news₁ h₁ tk₁ gs₁ ⟨o, t1, hop, rfl, hlo, hhi, hgo⟩ hbare F2 N2
    walk_at "mine go"
    have e : checkP x.cps.toList = (o == 0) := by rw [← hgo, parGo]; rfl
    have := fun tk g' => fin _ tk g' F2.keep
    rw [e] at this
    exact this _ _ fun b => hbare (bare_push (hb1 b) rfl)
end
-- C1
section
variable {prog : Program} {w : World} {A : Around} {s : Shared} {K : Frag} {p : Program} {loose : List Str} {mg mb : Str → Option Value} {R : Result → Shared → Prop} {h₀ : Heap}
    {name qual : Str} {params : Arguments} {body : List Stmt} {scope : Scope} {dV kV doc pm cdv ct oc : Value} {an od : Option Addr} {osl : Array (Option Value)} {f : Addr} {args : List Value} {kw : List (Str × Value)} {binds : List (Str × Value)}
/-- entering a plain def from below a builtin -/
theorem enterK (muts : List (Addr × Obj)) (k₀ : h₀.StaysIn s.heap) (X : K.In h₀) (T : TopRead p loose mg mb h₀) (hm : ∀ q ∈ muts, s.heap.get? q.1 = some q.2 ∧ h₀.get? q.1 = none)
    (ho : K.lookup f = some ⟨oc, od, .func (fnOf name qual params body scope dV kV doc pm an cdv ct), osl⟩) (hcd : codeIn K cdv qual = true) (hroom : A.depth < recursionLimit)
    (hbind : BindsTo s (fnOf name qual params body scope dV kV doc pm an cdv ct) ⟨args, kw⟩ binds) (hloc : ∀ y ∈ binds, scope.names.lookup y.1 = some .local)
    (h : ∀ g L h₁, h₀.StaysIn g → But (muts.map (·.1)) s.heap g → (∀ b o, g.get? b = some o → s.heap.get? b = some o) → Fr g L h₁ (fun y => binds.reverse.lookup y) → News g L h₁ muts → K.In g → TopRead p loose mg mb g →
      wpAny (model prog w) (A.deeper (envOf qual scope L f cdv)) (execs body (envOf qual scope L f cdv))
        (fun fl s' => R (.ok (.ret (match fl with | .ret v => v | _ => .none))) s') NoE
        { s with heap := h₁, toks := s.toks + binds.length })
    (hco : scope.isCoroutine = false := by rfl) (hgen : scope.isGenerator = false := by rfl) (hk : scope.kind = .function := by rfl)
    (hcell : ∀ x ∈ scope.names, x.2 ≠ .cell := by decide) : codeAny (model prog w) A (.call (.ref f) ⟨args, kw⟩) R s := by
  have st : h₀.StaysIn (hideAll s.heap (muts.map (·.1))) := fun b o e => hideAll_get _ (k₀ b o e) fun q => by
    obtain ⟨p, hp, rfl⟩ := List.mem_map.mp q
    rw [(hm p hp).2] at e; cases e
  refine codeAny_call_def (fd := fnOf name qual params body scope dV kV doc pm an cdv ct) (body := body) (binds := binds) hroom (k₀ _ _ (X _ _ ho)) rfl (T.keeps k₀).nolimit (codeRec_of (X.keeps k₀) hcd) rfl hbind hcell hloc (fun h₁ hns hk₁ => ?_) hco hgen hk
  refine wpAny_mono (h _ s.heap.objs.size h₁ st (fun b o n e => hideAll_get _ e n) (fun b o e => of_hideAll _ e) ⟨hns, fun b o e => hk₁ b o (of_hideAll _ e), Nat.le_of_eq (hideAll_size _ _)⟩
    (fun q hq => ⟨hk₁ _ _ (hm q hq).1, Nat.ne_of_lt (Heap.lt_size (hm q hq).1), hideAll_none _ (List.mem_map_of_mem hq)⟩) (X.keeps st) (T.keeps st)) (fun fl s' hq => ?_) (fun _ _ e => e.elim)
  cases fl <;> exact hq
end

noncomputable abbrev lexDict (w : World) (t1 t2 t3 t4 t5 t6 : Tok) (ln : Int) (ins : Value) (pb : Addr) : Obj :=
  dictOf [⟨PyData.keyHash w.params (Str.ofString "lineno"), .str (Str.ofString "lineno") t1, .int ln t2⟩, ⟨PyData.keyHash w.params (Str.ofString "instream"), .str (Str.ofString "instream") t3, ins⟩,
    ⟨PyData.keyHash w.params (Str.ofString "whitespace"), .str (Str.ofString "whitespace") t4, .str (Str.ofString "\n\t\x0d ") t5⟩, ⟨PyData.keyHash w.params (Str.ofString "pushback"), .str (Str.ofString "pushback") t6, .ref pb⟩] 4

section
variable {w : World} {pp : Program} {loose : List Str} {mg mb : Str → Option Value} {h₀ : Heap} {dp un : Nat} {fr : Option (List Env)} {gd : Option (List Code)} {s : Shared} {R : Result → Shared → Prop}

set_option maxHeartbeats 1000000 in
theorem init_spec {x dx : Addr} {fp : Value}
    (k₀ : h₀.StaysIn s.heap) (X : (hd.heap_39 w.params).In h₀) (T : TopRead pp loose mg mb h₀) (hroom : dp < recursionLimit)
    (hx : s.heap.get? x = some (instObj 100 dx)) (hx0 : h₀.get? x = none) (hd : s.heap.get? dx = some (dictOf [] 0)) (hd0 : h₀.get? dx = none) (hne : @LT.lt Nat _ dx x)
    (h : ∀ h' tk pb t1 t2 t3 t4 t5 t6, But [dx] s.heap h' → h'.get? dx = some (lexDict w t1 t2 t3 t4 t5 t6 1 fp pb) → h'.get? pb = some (listOf #[] 0) → s.heap.get? pb = none → @LT.lt Nat _ x pb →
      R (.ok (.ret .none)) { s with heap := h', toks := tk }) :
    codeAny (model PR w) (AA dp un fr gd) (.call (.ref 76) ⟨[.ref x, fp], []⟩) R s := by
  refine' enterK (binds := [(Str.ofString "self", .ref x), (Str.ofString "fp", fp)]) [(x, instObj 100 dx), (dx, dictOf [] 0)] ?k ?X ?T ?hm ?ho ?hcd ?hroom ?hb ?hloc ?_ ?c2 ?c3 ?c4 ?c5
  case k => exact k₀
  case X => exact X
  case T => exact T
  case hm => exact List.forall_mem_cons.mpr ⟨⟨hx, hx0⟩, List.forall_mem_cons.mpr ⟨⟨hd, hd0⟩, (fun _ q => nomatch q)⟩⟩
  case ho => k_is
  case hcd => k_is
  case hroom => exact hroom
  case hb => exact BindsTo.of_eq rfl
  case hloc => exact locs rfl
  case c2 => rfl
  case c3 => rfl
  case c4 => rfl
  case c5 => decide
  intro g L h₁ kg bg og F N Xg Tg
  have fin : ∀ h' tk pb t1 t2 t3 t4 t5 t6, g.StaysIn h' → News g L h' [(pb, listOf #[] 0), (x, instObj 100 dx), (dx, lexDict w t1 t2 t3 t4 t5 t6 1 fp pb)] → (@LT.lt Nat _ x pb ∧ @LT.lt Nat _ dx pb) →
      R (.ok (.ret .none)) { s with heap := h', toks := tk } := by
    intro h' tk pb t1 t2 t3 t4 t5 t6 k N2 hl
    refine h h' tk pb t1 t2 t3 t4 t5 t6 (fun b o q e => ?_) (N2 (dx, _) (.tail _ (.tail _ (.head _)))).1 (N2 (pb, _) (.head _)).1 ?_ hl.1
    · by_cases hb : b = x
      · subst hb
        rw [hx] at e; cases e
        exact (N2 (b, _) (.tail _ (.head _))).1
      · refine k b o (bg b o (fun q2 => ?_) e)
        cases q2 with
        | head => exact hb rfl
        | tail _ q2 => exact q q2
    · cases e : s.heap.get? pb with
      | none => rfl
      | some o =>
        have := bg pb o (fun q2 => ?_) e
        · rw [(N2 (pb, _) (.head _)).2.2] at this; cases this
        · cases q2 with
          | head => exact Nat.lt_irrefl _ hl.1
          | tail _ q2 => cases q2 with
            | head => exact Nat.lt_irrefl _ hl.2
            | tail _ q2 => cases q2
  clear h hx hx0 hd hd0 k₀ X T kg bg og
  show wpAny _ _ _ _ _ _
  k_fold
  walk_at "mine go"
  rename Fr _ _ _ _ => F1
  rename News _ _ _ _ => N1
  exact fin _ _ _ _ _ _ _ _ _ F1.keep N1 (by assumption)
end
-- C2
theorem strs_carried : ∀ {vs : List Value} {l : List Nat}, CarriedAll vs (l.map fun c => PyData.str ⟨#[c]⟩) → StrsAre vs (l.map fun c => mkS [c])
  | _, [], h => by cases h; exact .nil
  | _, c :: l, h => by
    cases h with
    | cons h1 h2 =>
      cases h1
      exact .cons _ _ (strs_carried h2)
theorem list_text {prog : Program} {w : World} {A : Around} {E : Value → Shared → Prop} {s : Shared} {h₀ : Heap} {L : Addr} {m : Str → Option Value} {Q : Value → Shared → Prop} {x : Str} {t : Tok} {news : List (Addr × Obj)} (hh : A.handled = none) (Fh : Fr h₀ L s.heap m) (N : News h₀ L s.heap news)
    (hsz : x.length ≤ sizeLine)
    (hQ : ∀ D h' tk (ys : List Value) n, Fr h₀ L h' m → News h₀ L h' ((D, listOf ys.toArray n) :: news) → (∀ p ∈ news, @LT.lt Nat _ p.1 D) → StrsAre ys (x.cps.toList.map fun c => mkS [c]) → Q (.ref D) { s with heap := h', toks := tk }) :
    wpAny (model prog w) A (call (.type "list") [.str x t]) Q E s := by
  refine list_strD hh Fh N (fun h' tk ys F N k hD hl P hc => ?_) hsz
  obtain ⟨n, N2, _⟩ := gn_enter P F N hD
  refine hQ _ h' tk ys n F N2 (fun p hp => Heap.lt_size (‹News h₀ L s.heap news› p hp).1) ?_
  refine strs_carried ?_
  have e : (signs x).map PyData.str = x.cps.toList.map fun c => PyData.str ⟨#[c]⟩ := by
    simp [signs]
  rw [← e]; exact hc
theorem stc2_0 {x0 x1 x2 x3 x4 x5 x6} (h : wpAny x0 x1 (call (Value.type "list") [Value.str x2 x3]) x4 x5 x6) : wpAny x0 x1 (call (Value.type "list") [Value.str x2 x3]) x4 x5 x6 := h
local macro_rules | `(tactic| walk_at "mine stop") => `(tactic| with_reducible refine stc2_0 ?_)
section
variable {w : World} {pp : Program} {loose : List Str} {mean : ExcName → Option Value} {mg mb : Str → Option Value} {h₀ : Heap} {dp un : Nat} {fr : Option (List Env)} {gd : Option (List Code)} {s : Shared} {Q : Value → Shared → Prop}

theorem make_lex {fp : Value} {L : Addr} {m : Str → Option Value} {news : List (Addr × Obj)} (F : Fr h₀ L s.heap m) (X : (hd.heap_39 w.params).In h₀) (T : TopRead pp loose mg mb h₀) (N : News h₀ L s.heap news) (hroom : dp + 1 < recursionLimit)
    (h : ∀ x dx pb h' tk t1 t2 t3 t4 t5 t6, Fr h₀ L h' m → News h₀ L h' ((pb, listOf #[] 0) :: (x, instObj 100 dx) :: (dx, lexDict w t1 t2 t3 t4 t5 t6 1 fp pb) :: news) → (∀ p ∈ news, @LT.lt Nat _ p.1 dx) → @LT.lt Nat _ dx x → @LT.lt Nat _ x pb →
      Q (.ref x) { s with heap := h', toks := tk }) :
    wpAny (model PR w) (AA dp un fr gd) (call (.ref 100) [fp]) Q NoE s := by
  refine call_cls (fI := 76) F X N (by k_is) (by k_is) (by k_is) fun x dx h' F1 N1 l1 l2 => ?_
  refine init_spec F1.keep X T hroom (N1 (x, _) (.head _)).1 (N1 (x, _) (.head _)).2.2 (N1 (dx, _) (.tail _ (.head _))).1 (N1 (dx, _) (.tail _ (.head _))).2.2 l2 fun h2 tk pb t1 t2 t3 t4 t5 t6 k hd2 hp2 hp0 l3 => ?_
  refine ⟨rfl, h x dx pb h2 tk t1 t2 t3 t4 t5 t6 (fr_but1 F1 N1 (.tail _ (.head _)) k) ?_ l1 l2 l3⟩
  have ne : ∀ b : Addr, b ≠ dx → b ∉ [dx] := fun b n q => by
    cases q with
    | head => exact n rfl
    | tail _ q => cases q
  intro q hq
  cases hq with
  | head =>
    refine ⟨hp2, fun e => ?_, ?_⟩
    · refine byG fun G9 k9 => ?_; rcases F1.ns with ⟨o, es, ep, ho, hd', _⟩; all_goals (refine k9 ?_; clear k9 G9)
      dsimp only at e
      rw [← e, hp0] at ho; cases ho
    · cases e : h₀.get? pb with
      | none => rfl
      | some o => have := F1.keep _ _ e; rw [hp0] at this; cases this
  | tail _ hq => cases hq with
    | head => exact ⟨k _ _ (ne _ (Nat.ne_of_gt l2)) (N1 (x, _) (.head _)).1, (N1 (x, _) (.head _)).2⟩
    | tail _ hq => cases hq with
      | head => exact ⟨hd2, (N1 (dx, _) (.tail _ (.head _))).2⟩
      | tail _ hq =>
        have z := N1 q (.tail _ (.tail _ hq))
        exact ⟨k _ _ (ne _ (Nat.ne_of_lt (l1 q hq))) z.1, z.2⟩

end
noncomputable def aStmt : Stmt → Expr
  | .Assign _ e _ => e
  | _ => default
noncomputable def lamP : Expr → Arguments
  | .Lambda p _ _ _ => p
  | _ => default
noncomputable def lamB : Expr → Expr
  | .Lambda _ b _ _ => b
  | _ => default
noncomputable def lamS : Expr → Scope
  | .Lambda _ _ s _ => s
  | _ => default
noncomputable abbrev lamE : Expr := aStmt ((fBody (PySem.Challenge.pw_sc0052_01.main.body.getD 11 default)).getD 2 default)
noncomputable abbrev lamObj (cell : Addr) (pm : Value) (cr : Addr) (ctv : Value) : Obj :=
  kla_obj (Str.ofString "<lambda>") (Str.ofString "_law_lexer" ++ ".<locals>." ++ Str.ofString "<lambda>") (lamP lamE) (lamB lamE) (lamS lamE) [(Str.ofString "signs", cell)] pm cr ctv
structure LexRef where
  (cell sg std st cr fn lxd lx pb : Nat)
noncomputable def LexRef.addrs (R : LexRef) : List Addr := [R.pb, R.lx, R.lxd, R.fn, R.cr, R.st, R.std, R.sg, R.cell]
structure LexRef.Ord (R : LexRef) : Prop where
  (a : R.cell < R.sg) (b : R.sg < R.std) (c : R.std < R.st) (d : R.st < R.fn) (e : R.fn < R.lxd) (f : R.lxd < R.lx) (g : R.lx < R.pb) (h : R.cr < R.fn) (i : R.cr ≠ R.sg)
/-- a lexer in the ledger: what it has still to read, its line, what was pushed -/
inductive LexAt (w : World) (R : LexRef) (cs : List Nat) (line : Int) (pbs : List Str) (news : List (Addr × Obj)) : Prop
  | mk (vs us : List Value) (n1 n2 : Nat) (t1 t2 t3 t4 t5 t6 u1 u2 u3 u4 u5 u6 u7 t : Tok) (pm ctv : Value) (pb0 : Addr) (oc co : Obj) (fs : Array Value) (ho : R.Ord) (hv : StrsAre vs (cs.map fun c => mkS [c])) (hu : StrsAre us pbs)
    (hod : oc.data = .fields fs) (hof : fs[1]? = some (.str (Str.ofString "_law_lexer" ++ ".<locals>." ++ Str.ofString "<lambda>") t)) (hco : co.data = .cell (some (.ref R.sg)))
    (hn : news = [(R.pb, listOf us.toArray n2), (R.lx, instObj 100 R.lxd), (R.lxd, lexDict w t1 t2 t3 t4 t5 t6 line (.ref R.st) R.pb), (R.fn, lamObj R.cell pm R.cr ctv), (R.cr, oc), (R.st, instObj 100 R.std),
      (R.std, dictOf [⟨PyData.keyHash w.params (Str.ofString "lineno"), .str (Str.ofString "lineno") u1, .int 1 u2⟩, ⟨PyData.keyHash w.params (Str.ofString "instream"), .str (Str.ofString "instream") u3, .none⟩,
        ⟨PyData.keyHash w.params (Str.ofString "whitespace"), .str (Str.ofString "whitespace") u4, .str (Str.ofString "\n\t\x0d ") u5⟩, ⟨PyData.keyHash w.params (Str.ofString "pushback"), .str (Str.ofString "pushback") u6, .ref pb0⟩,
        ⟨PyData.keyHash w.params (Str.ofString "read"), .str (Str.ofString "read") u7, .ref R.fn⟩] 5), (R.sg, listOf vs.toArray n1), (R.cell, co)]) : LexAt w R cs line pbs news
theorem LexAt.addr {w : World} {R : LexRef} {cs : List Nat} {line : Int} {pbs : List Str} {news : List (Addr × Obj)} (x : LexAt w R cs line pbs news) : news.map (·.1) = R.addrs := by
  refine byG fun G9 k9 => ?_; rcases x with ⟨_, _, _, _, _, _, _, _, _, _, _, _, _, _, _, _, _, _, _, _, _, _, _, _, _, _, _, _, _, _, rfl⟩; all_goals (refine k9 ?_; clear k9 G9)
  rfl
theorem all9 {P : Addr × Obj → Prop} {a b c d e f g h i : Addr × Obj} (ha : P a) (hb : P b) (hc : P c) (hd : P d) (he : P e) (hf : P f) (hg : P g) (hh : P h) (hi : P i) : ∀ q ∈ [a, b, c, d, e, f, g, h, i], P q := by
  intro q hq
  simp only [List.mem_cons, List.not_mem_nil, or_false] at hq
  rcases hq with rfl | rfl | rfl | rfl | rfl | rfl | rfl | rfl | rfl <;> assumption
theorem LexAt.mem {w : World} {R : LexRef} {cs : List Nat} {line : Int} {pbs : List Str} {news : List (Addr × Obj)} (x : LexAt w R cs line pbs news) : ∀ q ∈ news, q.1 ∈ R.addrs := fun q hq => by
  rw [← x.addr]
  exact List.mem_map_of_mem hq
theorem lexAt_sub {w : World} {R : LexRef} {cs : List Nat} {line : Int} {pbs : List Str} {news : List (Addr × Obj)} {vs us : List Value} {n1 n2 : Nat} {t1 t2 t3 t4 t5 t6 u1 u2 u3 u4 u5 u6 u7 t : Tok} {pm ctv : Value} {pb0 : Addr} {oc co : Obj} {fs : Array Value} {h₀ h : Heap} {L : Addr}
    (_ : News h₀ L h news) (ho : R.Ord) (hv : StrsAre vs (cs.map fun c => mkS [c])) (hu : StrsAre us pbs) (hod : oc.data = .fields fs) (hof : fs[1]? = some (.str (Str.ofString "_law_lexer" ++ ".<locals>." ++ Str.ofString "<lambda>") t)) (hco : co.data = .cell (some (.ref R.sg)))
    (m1 : (R.pb, listOf us.toArray n2) ∈ news) (m2 : (R.lx, instObj 100 R.lxd) ∈ news) (m3 : (R.lxd, lexDict w t1 t2 t3 t4 t5 t6 line (.ref R.st) R.pb) ∈ news) (m4 : (R.fn, lamObj R.cell pm R.cr ctv) ∈ news) (m5 : (R.cr, oc) ∈ news) (m6 : (R.st, instObj 100 R.std) ∈ news)
    (m7 : (R.std, dictOf [⟨PyData.keyHash w.params (Str.ofString "lineno"), .str (Str.ofString "lineno") u1, .int 1 u2⟩, ⟨PyData.keyHash w.params (Str.ofString "instream"), .str (Str.ofString "instream") u3, .none⟩,
        ⟨PyData.keyHash w.params (Str.ofString "whitespace"), .str (Str.ofString "whitespace") u4, .str (Str.ofString "\n\t\x0d ") u5⟩, ⟨PyData.keyHash w.params (Str.ofString "pushback"), .str (Str.ofString "pushback") u6, .ref pb0⟩,
        ⟨PyData.keyHash w.params (Str.ofString "read"), .str (Str.ofString "read") u7, .ref R.fn⟩] 5) ∈ news)
    (m8 : (R.sg, listOf vs.toArray n1) ∈ news) (m9 : (R.cell, co) ∈ news) : ∃ news', LexAt w R cs line pbs news' ∧ ∀ q ∈ news', q ∈ news :=
  ⟨_, ⟨vs, us, n1, n2, t1, t2, t3, t4, t5, t6, u1, u2, u3, u4, u5, u6, u7, t, pm, ctv, pb0, oc, co, fs, ho, hv, hu, hod, hof, hco, rfl⟩, all9 m1 m2 m3 m4 m5 m6 m7 m8 m9⟩
theorem stc2_1 {x0 x1 x2 x3 x4 x5 x6 x7 x8 x9} (h : wpAny x0 x1 (eval (Expr.Lambda x2 x3 x4 x5) x6) x7 x8 x9) : wpAny x0 x1 (eval (Expr.Lambda x2 x3 x4 x5) x6) x7 x8 x9 := h
local macro_rules | `(tactic| walk_at "mine stop") => `(tactic| with_reducible refine stc2_1 ?_)
noncomputable abbrev lexTab (cr : Addr) : Array Value := #[rawInt 139, rawInt 18, .ref cr]

section
variable {w : World} {pp : Program} {loose : List Str} {mean : ExcName → Option Value} {mg mb : Str → Option Value} {h₀ : Heap} {dp un : Nat} {fr : Option (List Env)} {gd : Option (List Code)} {s : Shared} {Q : Value → Shared → Prop}

set_option maxHeartbeats 2000000 in
theorem lexer_spec {x : Str} {tx : Tok}
    (k₀ : h₀.StaysIn s.heap) (X : (hd.heap_39 w.params).In h₀) (T : Top pp loose mean mg mb h₀) (hroom : dp + 2 < recursionLimit) (C : CodeHd h₀ 110 106)
    (hT : s.heap.get? 106 = some (tabObj #[])) (hT0 : h₀.get? 106 = none) (hn : x.cps.size < 1000)
    (h : ∀ h' tk R news, But [106] s.heap h' → h'.get? 106 = some (tabObj (lexTab R.cr)) → LexAt w R x.cps.toList 1 [] news → (∀ q ∈ news, h'.get? q.1 = some q.2) → (∀ q ∈ news, s.heap.get? q.1 = none) → Q (.ref R.lx) { s with heap := h', toks := tk }) :
    wpAny (model PR w) (AA dp un fr gd) (call (.ref 111) [.str x tx]) Q NoE s := by
  have TR := topRead_of T
  refine' enterC (binds := [(Str.ofString "text", .str x tx)]) [(106, tabObj #[])] ?k ?X ?T ?hm ?ho ?hcd ?hroom ?hb ?hkind ?hnd ?_ ?c2 ?c3 ?c4
  case k => exact k₀
  case X => exact X
  case T => exact TR
  case hm => exact List.forall_mem_cons.mpr ⟨⟨hT, hT0⟩, (fun _ q => nomatch q)⟩
  case ho => k_is
  case hcd => k_is
  case hroom => exact Nat.lt_of_succ_lt (Nat.lt_of_succ_lt hroom)
  case hb => exact BindsTo.of_eq rfl
  case hkind => rfl
  case hnd => decide
  case c2 => rfl
  case c3 => rfl
  case c4 => rfl
  intro g L h₁ tk cells kg bg og F N CA Xg Tg lg
  have TT := T.keeps kg
  have CC := C.keeps kg
  have fin : ∀ h' tk R news news6 L m, Fr g L h' m → News g L h' news6 → (∀ q ∈ news, q ∈ news6) → (106, tabObj (lexTab R.cr)) ∈ news6 → LexAt w R x.cps.toList 1 [] news → (∀ q ∈ news, @LT.lt Nat _ 106 q.1) → Q (.ref R.lx) { s with heap := h', toks := tk } := by
    intro h' tk R news news6 L m F6 N6 hs ht hl hg
    refine h h' tk R news (fun b o n e => F6.keep b o (bg b o n e)) (N6 _ ht).1 hl (fun q hq => (N6 q (hs q hq)).1) (fun q hq => ?_)
    cases e : s.heap.get? q.1 with
    | none => rfl
    | some o =>
      have := bg q.1 o (fun m => by
        have hlt := hg q hq
        have m2 : q.1 = 106 := List.mem_singleton.mp m
        rw [m2] at hlt
        exact Nat.lt_irrefl _ hlt) e
      rw [(N6 q (hs q hq)).2.2] at this; cases this
  clear h hT hT0 k₀ X T kg bg og TR C
  k_lt lg
  k_cells CA
  simp only [List.cons_append, List.nil_append] at N
  have hroom' : (dp + 1) + 1 < recursionLimit := hroom
  show wpAny _ _ _ _ _ _
  k_fold
  walk_at "mine go"
  refine list_text rfl F N (show x.cps.size ≤ _ by rw [sizeLine_eq]; exact (Nat.le_of_lt (Nat.lt_trans hn (by decide : 1000 < 16777216)))) fun sg h2 tk2 vs n F2 N2 l2 hv => ?_
  k_lt l2
  walk_at "mine go"
  rename Fr _ _ _ _ => F3
  rename News _ _ _ _ => N3
  refine make_lex F3 Xg Tg N3 hroom' fun st std pb0 h4 tk4 t1 t2 t3 t4 t5 t6 F4 N4 l4 l5 l6 => ?_
  k_lt l4
  walk_at "mine go"
  refine kla_eval rfl ?_
  rename Fr _ _ _ _ => F5
  rename News _ _ _ _ => N5
  refine' kla_nest F5 N5 TT CC rfl ?U ?_ ?_ rfl ?_
  case U => k_updF
  · exact trivial
  · rfl
  intro f cr oc fs t0 ctv h5 tk5 F5' N5' hod hof l10 l11
  k_lt l10
  k_lt2 l11
  dsimp only at N5'
  walk_at "mine go"
  rename Fr _ _ _ _ => F7
  rename News _ _ _ _ => N7
  refine make_lex F7 Xg Tg N7 hroom' fun lx lxd pb h6 tk6 t7 t8 t9 t10 t11 t12 F6 N6 l7 l8 l9 => ?_
  k_lt l7
  walk_at "mine go"
  have R0 : LexRef.Ord ⟨L + 1, sg, std, st, cr, f, lxd, lx, pb⟩ := ⟨by dsimp only; exact l2.1, by dsimp only; exact l4.1, by dsimp only; omega, by dsimp only; exact (Nat.lt_trans l10.2.1 l11), by dsimp only; exact l7.1, by dsimp only; omega, by dsimp only; omega, by dsimp only; omega, by dsimp only; exact Nat.ne_of_gt l10.2.2.2.1⟩
  obtain ⟨news', hl, hs⟩ := lexAt_sub (R := ⟨L + 1, sg, std, st, cr, f, lxd, lx, pb⟩) (w := w) N6 R0 hv .nil hod hof (by assumption) (by k_mem) (by k_mem) (by k_mem) (by k_mem) (by k_mem) (by k_mem) (by k_mem) (by k_mem) (by k_mem)
  refine fin h6 _ ⟨L + 1, sg, std, st, cr, f, lxd, lx, pb⟩ news' _ _ _ F6 N6 hs (by k_mem) hl fun q hq => ?_
  have hq := hl.mem q hq
  simp only [LexRef.addrs, List.mem_cons, List.not_mem_nil, or_false] at hq
  rcases hq with e | e | e | e | e | e | e | e | e <;> (rw [e]; (first | exact (Nat.lt_trans (Nat.lt_trans l7.2.2.2.2.2.2.2 l8) l9) | exact (Nat.lt_trans l7.2.2.2.2.2.2.2 l8) | exact l7.2.2.2.2.2.2.2 | exact (Nat.lt_trans l10.2.2.2.2.2 l11) | exact l10.2.2.2.2.2 | exact (Nat.lt_trans l4.2.2 l5) | exact l4.2.2 | exact l2.2 | exact (Nat.lt_trans lg (Nat.lt_add_of_pos_right (by decide)))))
set_option maxHeartbeats 2000000 in
theorem lexer_hit {x : Str} {tx : Tok} {cr : Addr} {oc : Obj} {fs : Array Value} {t0 : Tok}
    (k₀ : h₀.StaysIn s.heap) (X : (hd.heap_39 w.params).In h₀) (T : Top pp loose mean mg mb h₀) (hroom : dp + 2 < recursionLimit) (C : CodeHd h₀ 110 106)
    (hT : s.heap.get? 106 = some (tabObj (lexTab cr))) (hT0 : h₀.get? 106 = none) (hc : s.heap.get? cr = some oc) (hc0 : h₀.get? cr = none) (hod : oc.data = .fields fs) (hof : fs[1]? = some (.str (Str.ofString "_law_lexer" ++ ".<locals>." ++ Str.ofString "<lambda>") t0)) (hn : x.cps.size < 1000)
    (h : ∀ h' tk R news, s.heap.StaysIn h' → R.cr = cr → LexAt w R x.cps.toList 1 [] news → (∀ q ∈ news, h'.get? q.1 = some q.2) → (∀ q ∈ news, q.1 = cr ∨ s.heap.get? q.1 = none) → Q (.ref R.lx) { s with heap := h', toks := tk }) :
    wpAny (model PR w) (AA dp un fr gd) (call (.ref 111) [.str x tx]) Q NoE s := by
  have TR := topRead_of T
  refine' enterC (binds := [(Str.ofString "text", .str x tx)]) [(cr, oc), (106, tabObj (lexTab cr))] ?k ?X ?T ?hm ?ho ?hcd ?hroom ?hb ?hkind ?hnd ?_ ?c2 ?c3 ?c4
  case k => exact k₀
  case X => exact X
  case T => exact TR
  case hm => exact List.forall_mem_cons.mpr ⟨⟨hc, hc0⟩, List.forall_mem_cons.mpr ⟨⟨hT, hT0⟩, (fun _ q => nomatch q)⟩⟩
  case ho => k_is
  case hcd => k_is
  case hroom => exact Nat.lt_of_succ_lt (Nat.lt_of_succ_lt hroom)
  case hb => exact BindsTo.of_eq rfl
  case hkind => rfl
  case hnd => decide
  case c2 => rfl
  case c3 => rfl
  case c4 => rfl
  intro g L h₁ tk cells kg bg og F N CA Xg Tg lg
  have TT := T.keeps kg
  have CC := C.keeps kg
  have fin : ∀ h' tk R news news6 L m, Fr g L h' m → News g L h' news6 → (∀ q ∈ news, q ∈ news6) → (106, tabObj (lexTab R.cr)) ∈ news6 → (cr, oc) ∈ news6 → R.cr = cr → LexAt w R x.cps.toList 1 [] news → (∀ q ∈ news, q.1 = cr ∨ @LT.lt Nat _ 106 q.1) → Q (.ref R.lx) { s with heap := h', toks := tk } := by
    intro h' tk R news news6 L m F6 N6 hs ht hcr er hl hg
    refine h h' tk R news (fun b o e => ?_) er hl (fun q hq => (N6 q (hs q hq)).1) (fun q hq => if hne : q.1 = cr then .inl hne else .inr ?_)
    · by_cases h1 : b = cr
      · subst h1; rw [hc] at e; cases e; exact (N6 _ hcr).1
      · by_cases h2 : b = 106
        · subst h2; rw [hT] at e; cases e; rw [← er]; exact (N6 _ ht).1
        · refine F6.keep b o (bg b o (fun q => ?_) e)
          cases q with
          | head => exact h1 rfl
          | tail _ q => cases q with
            | head => exact h2 rfl
            | tail _ q => cases q
    · have hlt := (hg q hq).resolve_left hne
      cases e : s.heap.get? q.1 with
      | none => rfl
      | some o =>
        by_cases h1 : q.1 = cr
        · exact absurd h1 hne
        · have := bg q.1 o (fun m => by
            rcases List.mem_cons.mp m with m | m
            · exact h1 m
            · have m2 : q.1 = 106 := List.mem_singleton.mp m
              rw [m2] at hlt
              exact Nat.lt_irrefl _ hlt) e
          rw [(N6 q (hs q hq)).2.2] at this; cases this
  clear h hT hT0 k₀ X T kg bg og TR C hc hc0
  k_lt lg
  k_cells CA
  simp only [List.cons_append, List.nil_append] at N
  have hroom' : (dp + 1) + 1 < recursionLimit := hroom
  show wpAny _ _ _ _ _ _
  k_fold
  walk_at "mine go"
  refine list_text rfl F N (show x.cps.size ≤ _ by rw [sizeLine_eq]; exact (Nat.le_of_lt (Nat.lt_trans hn (by decide : 1000 < 16777216)))) fun sg h2 tk2 vs n F2 N2 l2 hv => ?_
  k_lt l2
  walk_at "mine go"
  rename Fr _ _ _ _ => F3
  rename News _ _ _ _ => N3
  refine make_lex F3 Xg Tg N3 hroom' fun st std pb0 h4 tk4 t1 t2 t3 t4 t5 t6 F4 N4 l4 l5 l6 => ?_
  k_lt l4
  walk_at "mine go"
  refine kla_eval rfl ?_
  rename Fr _ _ _ _ => F5
  rename News _ _ _ _ => N5
  refine' kla_hit (c' := cr) F5 N5 TT CC rfl (by k_mem) (by simp [TriplesOk, rawInt]) (by simp [codeAmong, rawInt]) rfl ?_
  intro f ctv h5 tk5 F5' N5' l10
  k_lt l10
  walk_at "mine go"
  rename Fr _ _ _ _ => F7
  rename News _ _ _ _ => N7
  refine make_lex F7 Xg Tg N7 hroom' fun lx lxd pb h6 tk6 t7 t8 t9 t10 t11 t12 F6 N6 l7 l8 l9 => ?_
  k_lt l7
  walk_at "mine go"
  have R0 : LexRef.Ord ⟨L + 1, sg, std, st, cr, f, lxd, lx, pb⟩ := ⟨by dsimp only; exact l2.1, by dsimp only; exact l4.1, by dsimp only; omega, by dsimp only; exact l10.2.1, by dsimp only; exact l7.1, by dsimp only; omega, by dsimp only; omega, by dsimp only; exact l10.2.2.2.2.2.1, by dsimp only; exact Nat.ne_of_lt l2.2.1⟩
  obtain ⟨news', hl, hs⟩ := lexAt_sub (R := ⟨L + 1, sg, std, st, cr, f, lxd, lx, pb⟩) (w := w) N6 R0 hv .nil hod hof (by assumption) (by k_mem) (by k_mem) (by k_mem) (by k_mem) (by k_mem) (by k_mem) (by k_mem) (by k_mem) (by k_mem)
  refine fin h6 _ ⟨L + 1, sg, std, st, cr, f, lxd, lx, pb⟩ news' _ _ _ F6 N6 hs (by k_mem) (by k_mem) rfl hl fun q hq => ?_
  have hq := hl.mem q hq
  simp only [LexRef.addrs, List.mem_cons, List.not_mem_nil, or_false] at hq
  by_cases hc : q.1 = cr
  · exact .inl hc
  · right
    rcases hq with e | e | e | e | e | e | e | e | e <;> first | exact absurd e hc | (rw [e]; (first | exact (Nat.lt_trans (Nat.lt_trans l7.2.2.2.2.2.2.2 l8) l9) | exact (Nat.lt_trans l7.2.2.2.2.2.2.2 l8) | exact l7.2.2.2.2.2.2.2 | exact l10.2.2.2.2.2.2 | exact (Nat.lt_trans l4.2.2.2 l5) | exact l4.2.2.2 | exact l2.2.2 | exact (Nat.lt_trans lg.2 (Nat.lt_add_of_pos_right (by decide)))))
end
-- C3
/-- the iterator of iter(f, ''), and what is left of it at its end -/
noncomputable abbrev citEnd : Obj := { cls := .type "callable_iterator", dict := none, data := .fields #[.none, .none, .bool true], slots := #[] }
noncomputable abbrev cit (q : Addr) (t : Tok) : Obj := { cls := .type "callable_iterator", dict := none, data := .fields #[.ref q, .str (Str.ofString "") t, .bool false], slots := #[] }
theorem slot_cit_iter : Slot "callable_iterator" "__iter__" "callable_iterator.__iter__" :=
  .of (owner := "callable_iterator") (n := "__iter__") (by rw [typeLookup_type, builtinLookup_eq_fast]; kernel_rfl) (by decide +kernel) (by decide +kernel) (by decide +kernel)
    (by first | exact .inl (by decide +kernel) | exact .inr (by decide +kernel)) (by rw [isSubtype_type]; kernel_rfl)
theorem entry_cit_iter : entryFor table "callable_iterator.__iter__" = some Builtin.«dict_keyiterator.__iter__» :=
  entryFor_alias (id' := "dict_keyiterator.__iter__") (by kernel_rfl) rfl (by decide +kernel) (by kernel_rfl)
theorem args_cit_iter (a : Value) : argsOk "callable_iterator.__iter__" ⟨[a], []⟩ := by unfold argsOk; kernel_rfl
theorem slot_cit_next : Slot "callable_iterator" "__next__" "callable_iterator.__next__" :=
  .of (owner := "callable_iterator") (n := "__next__") (by rw [typeLookup_type, builtinLookup_eq_fast]; kernel_rfl) (by decide +kernel) (by decide +kernel) (by decide +kernel)
    (by first | exact .inl (by decide +kernel) | exact .inr (by decide +kernel)) (by rw [isSubtype_type]; kernel_rfl)
theorem entry_cit_next : entryFor table "callable_iterator.__next__" = some Builtin.«callable_iterator.__next__» := entryFor_of_tree (by kernel_rfl)
theorem args_cit_next (a : Value) : argsOk "callable_iterator.__next__" ⟨[a], []⟩ := by unfold argsOk; kernel_rfl
theorem slot_method_call : Slot "method" "__call__" "method.__call__" :=
  .of (owner := "method") (n := "__call__") (by rw [typeLookup_type, builtinLookup_eq_fast]; kernel_rfl) (by decide +kernel) (by decide +kernel) (by decide +kernel)
    (by first | exact .inl (by decide +kernel) | exact .inr (by decide +kernel)) (by rw [isSubtype_type]; kernel_rfl)
theorem kind_iter : builtinKind "iter" = none := by decide +kernel
theorem plain_iter : plainId "iter" = true := by decide +kernel
theorem entry_iter : entryFor table "iter" = some Builtin.«iter» := entryFor_of_tree (by kernel_rfl)
theorem args_iter_2 (a b : Value) : argsOk "iter" ⟨[a, b], []⟩ := by unfold argsOk; kernel_rfl

section
variable {prog : Program} {w : World} {A : Around} {E : Value → Shared → Prop} {s : Shared}

theorem iter_make {q : Addr} {f self : Value} {t : Tok} {Q : Value → Shared → Prop} (hq : s.heap.get? q = some (methodObj f self))
    (h : Q (.ref s.heap.objs.size) { s with heap := s.heap.push (cit q t) }) : wpAny (model prog w) A (call (.builtin "iter") [.ref q, .str (Str.ofString "") t]) Q E s := by
  refine Calls.call_function_entry kind_iter plain_iter entry_iter (args_iter_2 _ _) ?_
  unfold Builtin.«iter»
  refine wpAny_bind (wpAny_of_eq (a := [.ref q, .str (Str.ofString "") t]) (by first | rfl | kernel_rfl) ?_)
  try dsimp only
  refine wpAny_bind (wpAny_specialOf (T := "method") ⟨_, hq, rfl⟩ slot_method_call.lookup ?_)
  simp only [Option.isNone_some, Bool.false_eq_true, if_false]
  refine wpAny_bind (wpAny_rule (wpAny_bind ?_))
  exact wpAny_newObj_type (wpAny_pure ⟨_, rfl, h⟩) (by size_fits)

theorem cit_iter {it q : Addr} {t : Tok} {Q : Value → Shared → Prop} (hit : s.heap.get? it = some (cit q t)) (h : Q (.ref it) s) : wpAny (model prog w) A (pyIter (.ref it)) Q E s := by
  refine wpAny_pyIter_slot (T := "callable_iterator") ⟨_, hit, rfl⟩ slot_cit_iter (wpAny_call_entry slot_cit_iter ⟨_, hit, rfl⟩ entry_cit_iter ?_ (args_cit_iter _))
  show wpAny _ _ (ret (.ref it)) _ _ _
  exact wpAny_pure ⟨_, rfl, "callable_iterator", _, ⟨_, hit, rfl⟩, slot_cit_next.lookup, h⟩

theorem borrows_method {q f : Addr} {self : Value} {o : Obj} {fd : FuncData} {Q : Bool → Shared → Prop} (hq : s.heap.get? q = some (methodObj (.ref f) self)) (hf : s.heap.get? f = some o) (hd : o.data = .func fd)
    (h : Q true s) : wpAny (model prog w) A (borrowsExactly (.ref q)) Q E s := by
  unfold borrowsExactly
  try dsimp only
  refine wpAny_bind (wpAny_load hq ?_)
  try dsimp only
  simp only [beq_self_eq_true, if_true]
  dsimp only [Array.getD]
  refine wpAny_bind (wpAny_load hf ?_)
  rw [hd]
  exact wpAny_pure h

theorem wpAny_callBorrowed {M : Model} {f : Value} {pos : List Value} {Q : Value → Shared → Prop}
    (hc : codeAny M A (.call f ⟨pos, []⟩) (fun r s' => match r with | .ok (.ret v) => Q v s' | .ok _ => False | .error e => E e s') s) :
    wpAny M A (callBorrowed f pos) Q E s := fun Γ p hΓ => by
  unfold callBorrowed
  rw [Sem.wp_call]
  refine wpCode_mono (fun r s' h => ?_) (hc _ p rfl (hΓ.enter _ none p (by intro x; cases x)))
  rcases r with e | (v | _ | _ | _)
  · exact h
  · exact h.elim
  · exact h.elim
  · exact h.elim
  · exact h

theorem cit_next {it q f x : Addr} {t : Tok} {o : Obj} {fd : FuncData} {Q : Option Value → Shared → Prop} (hh : A.handled = none) (hit : s.heap.get? it = some (cit q t)) (hq : s.heap.get? q = some (methodObj (.ref f) (.ref x)))
    (hf : s.heap.get? f = some o) (hd : o.data = .func fd)
    (hc : codeAny (model prog w) A.in1 (.call (.ref f) ⟨[.ref x], []⟩) (fun r s' => ∃ c tk, r = .ok (.ret (.str c tk)) ∧ s'.heap.get? it = some (cit q t) ∧ s'.heap.get? q = some (methodObj (.ref f) (.ref x)) ∧ s'.heap.get? f = some o ∧
      (c ≠ Str.ofString "" → Q (some (.str c tk)) s') ∧ (c = Str.ofString "" → ∀ h', Heap.ExtBut it s'.heap h' → h'.get? it = some citEnd → Q none { s' with heap := h' })) s) :
    wpAny (model prog w) A (pyNext (.ref it)) Q E s := by
  have hT : s.TypeIs (.ref it) "callable_iterator" := ⟨_, hit, rfl⟩
  unfold pyNext
  refine wpAny_bind (wpAny_attempt (wpAny_callSpecial?_slot (name := Str.ofString "__next__") hT slot_cit_next
    (wpAny_call_entry slot_cit_next hT entry_cit_next ?_ (args_cit_next _))))
  show wpAny _ _ (field (.ref it) 2 >>= _) _ _ _
  refine wpAny_bind (wpAny_field hit rfl (x := .bool false) rfl ?_)
  show wpAny _ _ (if (Value.bool false == Value.bool true) = true then _ else _) _ _ s
  rw [if_neg (by decide)]
  show wpAny _ _ (field (.ref it) 0 >>= _) _ _ _
  refine wpAny_bind (wpAny_field hit rfl (x := .ref q) rfl ?_)
  refine wpAny_bind (wpAny_attempt ?_)
  unfold callOutOfASlot
  refine wpAny_bind (borrows_method hq hf hd ?_)
  simp only [if_true]
  refine wpAny_callBorrowed (method_call hq (codeAny_mono hc fun r s' y => ?_))
  refine byG fun G9 k9 => ?_; rcases y with ⟨c, tk, rfl, hit', hq', hf', y1, y2⟩; all_goals (refine k9 ?_; clear k9 G9)
  try dsimp only
  show wpAny _ _ (field (.ref it) 2 >>= _) _ _ _
  refine wpAny_bind (wpAny_field hit' rfl (x := .bool false) rfl ?_)
  show wpAny _ _ (if (Value.bool false == Value.bool true) = true then _ else _) _ _ s'
  rw [if_neg (by decide)]
  show wpAny _ _ (field (.ref it) 1 >>= _) _ _ _
  refine wpAny_bind (wpAny_field hit' rfl (x := .str (Str.ofString "") t) rfl ?_)
  refine wpAny_bind (wpAny_holding (eqBool_str ?_))
  by_cases hce : c = Str.ofString ""
  · subst hce
    simp only [beq_self_eq_true, Bool.not_true, Bool.false_eq_true, if_false]
    refine wpAny_bind (wpAny_rule ?_)
    show wpAny _ _ ((field (.ref it) 0 >>= fun v => slotLetsGo _ v _ >>= fun _ => setField (.ref it) 0 .none >>= fun _ => setField (.ref it) 1 .none >>= fun _ => setField (.ref it) 2 (.bool true)) >>= _) _ _ _
    refine wpAny_bind (wpAny_bind (wpAny_field hit' rfl (x := .ref q) rfl (wpAny_bind ?_)))
    unfold slotLetsGo
    try dsimp only
    refine wpAny_bind (borrows_method hq' hf' hd ?_)
    simp only [if_true]
    refine wpAny_pure ?_
    refine wpAny_bind (wpAny_setField_rec hit' (by simp) fun h₁ i₁ b₁ => ?_)
    refine wpAny_bind (wpAny_setField_rec i₁ (by simp) fun h₂ i₂ b₂ => ?_)
    refine wpAny_setField_rec i₂ (by simp) fun h₃ i₃ b₃ => ?_
    show wpAny _ _ (newExc (.type "StopIteration") [] >>= _) _ _ _
    refine wpAny_bind ?_
    simp only [newExc, newTuple]
    refine wpAny_bind (wpAny_newObj_type ?_ (by size_fits))
    refine wpAny_bind (m := firstArgMember _ _) (wpAny_of_eq (a := Value.none) (by first | rfl | (simp only [firstArgMember]; rfl)) ?_)
    refine wpAny_newObj_type ?_ (by size_fits)
    simp only [raiseNew]
    refine wpAny_bind (wpAny_handled ?_)
    first | rw [show A.in1.handled = none from hh] | rw [hh]
    refine wpAny_bind (wpAny_pure (wpAny_throw ?_))
    refine wpAny_bind (wpAny_isInstance (T := "StopIteration") (b := true) ⟨_, Heap.get?_push_size _ rfl, rfl⟩ isSubtype_stop ?_)
    refine wpAny_pure (y2 rfl _ ((((b₁.trans b₂).trans b₃).extBut.push _).push _) ?_)
    exact Heap.get?_push_of_some _ (Heap.get?_push_of_some _ i₃)
  · have e : (Str.ofString "" == c) = false := by
      rw [beq_eq_false_iff_ne]; exact fun q => hce q.symm
    rw [e]
    simp only [Bool.not_false, if_true]
    exact wpAny_pure ⟨_, rfl, wpAny_pure (y1 hce)⟩

theorem cit_ended {it : Addr} {Q : Option Value → Shared → Prop} (hh : A.handled = none) (hit : s.heap.get? it = some citEnd)
    (h : ∀ h', Heap.ExtBut it s.heap h' → Q none { s with heap := h' }) : wpAny (model prog w) A (pyNext (.ref it)) Q E s := by
  have hT : s.TypeIs (.ref it) "callable_iterator" := ⟨_, hit, rfl⟩
  unfold pyNext
  refine wpAny_bind (wpAny_attempt (wpAny_callSpecial?_slot (name := Str.ofString "__next__") hT slot_cit_next
    (wpAny_call_entry slot_cit_next hT entry_cit_next ?_ (args_cit_next _))))
  show wpAny _ _ (field (.ref it) 2 >>= _) _ _ _
  refine wpAny_bind (wpAny_field hit rfl (x := .bool true) rfl ?_)
  show wpAny _ _ (if (Value.bool true == Value.bool true) = true then _ else _) _ _ s
  rw [if_pos (by decide)]
  refine wpAny_bind (wpAny_rule (wpAny_bind ?_))
  show wpAny _ _ (newExc (.type "StopIteration") [] >>= _) _ _ _
  refine wpAny_bind ?_
  simp only [newExc, newTuple]
  refine wpAny_bind (wpAny_newObj_type ?_ (by size_fits))
  refine wpAny_bind (m := firstArgMember _ _) (wpAny_of_eq (a := Value.none) (by first | rfl | (simp only [firstArgMember]; rfl)) ?_)
  refine wpAny_newObj_type ?_ (by size_fits)
  simp only [raiseNew]
  refine wpAny_bind (wpAny_handled ?_)
  first | rw [show A.in1.handled = none from hh] | rw [hh]
  refine wpAny_bind (wpAny_pure (wpAny_throw ?_))
  refine wpAny_bind (wpAny_isInstance (T := "StopIteration") (b := true) ⟨_, Heap.get?_push_size _ rfl, rfl⟩ isSubtype_stop ?_)
  exact wpAny_pure (h _ (fun b o _ e => Heap.get?_push_of_some _ (Heap.get?_push_of_some _ e)))
end
-- C4
section
variable {prog : Program} {w : World} {A : Around} {s : Shared} {K : Frag} {p : Program} {loose : List Str} {mg mb : Str → Option Value} {Q : Value → Shared → Prop} {h₀ : Heap}
    {name qual : Str} {params : Arguments} {body : Expr} {scope : Scope} {cl : List (Str × Addr)} {pm ctv : Value} {c' : Addr} {f : Addr} {args : List Value} {binds : List (Str × Value)}
/-- entering a lambda -/
theorem enterL (muts : List (Addr × Obj)) (k₀ : h₀.StaysIn s.heap) (X : K.In h₀) (T : TopRead p loose mg mb h₀) (hm : ∀ q ∈ muts, s.heap.get? q.1 = some q.2 ∧ h₀.get? q.1 = none)
    (ho : (f, kla_obj name qual params body scope cl pm c' ctv) ∈ muts) (hcd : s.heap.CodeRec (.ref c') qual) (hroom : A.depth < recursionLimit)
    (hbind : bindArgs (kla_fn name qual params body scope cl pm (.ref c') ctv) ⟨args, []⟩ = pure binds) (hloc : ∀ y ∈ binds, scope.names.lookup y.1 = some .local)
    (h : ∀ g L h₁, h₀.StaysIn g → But (muts.map (·.1)) s.heap g → (∀ b o, g.get? b = some o → s.heap.get? b = some o) → Fr g L h₁ (fun y => binds.reverse.lookup y) → News g L h₁ muts → K.In g → TopRead p loose mg mb g →
      wpAny (model prog w) (A.deeper (envX qual scope L f (.ref c') cl)) (eval body (envX qual scope L f (.ref c') cl)) Q NoE
        { s with heap := h₁, toks := s.toks + binds.length })
    (hco : scope.isCoroutine = false := by rfl) (hgen : scope.isGenerator = false := by rfl) (hk : scope.kind = .function := by rfl)
    (hcell : ∀ x ∈ scope.names, x.2 ≠ .cell := by decide) : wpAny (model prog w) A (call (.ref f) args) Q NoE s := by
  have st : h₀.StaysIn (hideAll s.heap (muts.map (·.1))) := fun b o e => hideAll_get _ (k₀ b o e) fun q => by
    obtain ⟨p, hp, rfl⟩ := List.mem_map.mp q
    rw [(hm p hp).2] at e; cases e
  refine wpAny_call (kla_callFunE hroom (hm _ ho).1 rfl hco hgen rfl hcd ?_)
  rw [hbind]
  refine wpAny_pure (wpAny_newFunctionEnv hcell hloc (fun h₁ hns hsb => ⟨((T.keeps k₀).nolimit).fresh _ hsb, ?_⟩) hk)
  have hk₁ : ∀ b o, s.heap.get? b = some o → h₁.get? b = some o := fun b o e => hsb.extBut b o (Nat.ne_of_lt (Heap.lt_size e)) (Heap.get?_push_of_some _ e)
  refine kla_codeExpr (wpAny_mono (h _ s.heap.objs.size h₁ st (fun b o n e => hideAll_get _ e n) (fun b o e => of_hideAll _ e) ⟨hns, fun b o e => hk₁ b o (of_hideAll _ e), Nat.le_of_eq (hideAll_size _ _)⟩
    (fun q hq => ⟨hk₁ _ _ (hm q hq).1, Nat.ne_of_lt (Heap.lt_size (hm q hq).1), hideAll_none _ (List.mem_map_of_mem hq)⟩) (X.keeps st) (T.keeps st)) (fun v s' hq => hq) (fun _ _ e => e.elim))
end

local macro_rules | `(tactic| walk_at "eval Name") => `(tactic| (k_here; k_dflt (refine' nameX_F ?N ?c ?m ?d ?_ ?a ?b; (case a => rfl); (case b => rfl); (case N => k_asm); (case c => rfl); (case m => k_mem); (case d => k_asm); k_whole)))

local macro_rules | `(tactic| walk_at "truthy ref") => `(tactic| (k_here; k_dflt (refine' wpAny_truthy_list ?l ?z ?_; (case l => exact isList_news (by k_asm) (by k_mem)); (case z => simp only [List.size_toArray, List.length_cons]; omega); k_whole); (try simp only [List.isEmpty_toArray, List.isEmpty_cons, List.isEmpty_nil, Bool.not_false, Bool.not_true])))

section
variable {w : World} {pp : Program} {loose : List Str} {mg mb : Str → Option Value} {h₀ : Heap} {dp un : Nat} {fr : Option (List Env)} {gd : Option (List Code)} {s : Shared} {Q : Value → Shared → Prop}

set_option maxHeartbeats 1000000 in
theorem lam_spec {R : LexRef} {cs : List Nat} {line : Int} {pbs : List Str} {news : List (Addr × Obj)} {t : Tok}
    (k₀ : h₀.StaysIn s.heap) (X : (hd.heap_39 w.params).In h₀) (T : TopRead pp loose mg mb h₀) (hroom : dp < recursionLimit)
    (hL : LexAt w R cs line pbs news) (hm : ∀ q ∈ news, s.heap.get? q.1 = some q.2 ∧ h₀.get? q.1 = none) (hn : cs.length < 1000)
    (h : ∀ h' tk t news', But R.addrs s.heap h' → LexAt w R cs.tail line pbs news' → (∀ q ∈ news', h'.get? q.1 = some q.2) → Q (.str (mkS (cs.take 1)) t) { s with heap := h', toks := tk }) :
    wpAny (model PR w) (AA dp un fr gd) (call (.ref R.fn) [.int 1 t]) Q NoE s := by
  refine byG fun G9 k9 => ?_; rcases R with ⟨cell, sg, std, st, cr, fn, lxd, lx, pb⟩; all_goals (refine k9 ?_; clear k9 G9)
  refine byG fun G9 k9 => ?_; rcases hL with ⟨vs, us, n1, n2, t1, t2, t3, t4, t5, t6, u1, u2, u3, u4, u5, u6, u7, tq, pm, ctv, pb0, oc, co, fs, hord, hv, hu, hod, hof, hco, rfl⟩; all_goals (refine k9 ?_; clear k9 G9)
  refine' enterL (binds := [(Str.ofString "size", .int 1 t)]) _ k₀ X T hm ?ho ?hcd hroom ?hb ?hloc ?_ ?c2 ?c3 ?c4 ?c5
  case ho => k_mem
  case hcd => exact ⟨_, oc, fs, tq, rfl, (hm (cr, oc) (by k_mem)).1, hod, hof⟩
  case hb => rfl
  case hloc => exact locs rfl
  case c2 => rfl
  case c3 => rfl
  case c4 => rfl
  case c5 => decide
  intro g L h₁ kg bg og F N Xg Tg
  have fin : ∀ h' tk t news', g.StaysIn h' → News g L h' news' → LexAt w ⟨cell, sg, std, st, cr, fn, lxd, lx, pb⟩ cs.tail line pbs news' → Q (.str (mkS (cs.take 1)) t) { s with heap := h', toks := tk } :=
    fun h' tk t news' k N hl => h h' tk t news' (fun b o q e => k b o (bg b o q e)) hl fun q hq => (N q hq).1
  have hord' := hord
  clear hm k₀ X T kg og h bg
  refine byG fun G9 k9 => ?_; rcases hord with ⟨o1, o2, o3, o4, o5, o6, o7, o8, o9⟩; all_goals (refine k9 ?_; clear k9 G9)
  dsimp only at N o1 o2 o3 o4 o5 o6 o7 o8 o9 hco
  have hS : lamS lamE = Scope.mk _ _ _ _ _ := rfl
  have hB : lamB lamE = Expr.IfExp _ _ _ _ := rfl
  rw [hS, hB]
  clear hS hB
  show wpAny _ _ _ _ _ _
  cases cs with
  | nil =>
    cases hv
    walk_at "mine go"
    exact fin _ _ _ _ F.keep N ⟨[], us, n1, n2, t1, t2, t3, t4, t5, t6, u1, u2, u3, u4, u5, u6, u7, tq, pm, ctv, pb0, oc, co, fs, hord', .nil, hu, hod, hof, hco, rfl⟩
  | cons c cs =>
    cases hv with
    | @cons _ tv vs _ hv =>
    have hl := hv.length
    rw [List.length_map] at hl
    have hn' : cs.length + 1 < 1000 := hn
    walk_at "mine go"
    rename Fr _ _ _ _ => F3
    rename News _ _ _ _ => N3
    refine' kl_popAt (its := (Value.str (mkS [c]) tv :: vs).toArray) F3 N3 (k := 0) (p := []) (q := vs) (y := .str (mkS [c]) tv) (by decide) ?s rfl ?U ?_ fun h4 F4 N4 => ?_
    case U => k_upd
    case s => simp [seqIndex?]
    · show vs.length + 1 ≤ _
      rw [sizeLine_eq]; exact ar13 hl hn'
    walk_at "mine go"
    exact fin _ _ _ _ F4.keep N4 ⟨vs, us, _, n2, t1, t2, t3, t4, t5, t6, u1, u2, u3, u4, u5, u6, u7, tq, pm, ctv, pb0, oc, co, fs, hord', hv, hu, hod, hof, hco, rfl⟩
end
-- C5
theorem lex_on {w : World} {R : LexRef} {cs cs' : List Nat} {line line' : Int} {pbs pbs' : List Str} {h₀ h h' : Heap} {L : Addr} {m : Str → Option Value} {own nl nl' : List (Addr × Obj)} (F : Fr h₀ L h m) (N : News h₀ L h (own ++ nl)) (x : LexAt w R cs line pbs nl) (x' : LexAt w R cs' line' pbs' nl')
    (hd : ∀ q ∈ own, q.1 ∉ R.addrs) (k : But R.addrs h h') (hn : ∀ q ∈ nl', h'.get? q.1 = some q.2) : Fr h₀ L h' m ∧ News h₀ L h' (own ++ nl') := by
  have old : ∀ a ∈ R.addrs, a ≠ L ∧ h₀.get? a = none := fun a ha => by
    rw [← x.addr] at ha
    obtain ⟨q, hq, rfl⟩ := List.mem_map.mp ha
    exact (N q (List.mem_append_right _ hq)).2
  refine ⟨fr_but F k (fun q => (old L q).1 rfl) (fun b hb => (old b hb).2), fun q hq => ?_⟩
  rcases List.mem_append.mp hq with hq | hq
  · have z := N q (List.mem_append_left _ hq)
    exact ⟨k _ _ (hd q hq) z.1, z.2⟩
  · exact ⟨hn q hq, old q.1 (x'.mem q hq)⟩

local macro_rules | `(tactic| walk_at "callWith ref") => `(tactic| (k_here; (try dsimp only); k_dflt (refine' callWith_F ?k1 ?_; (case k1 => exact FnAt.of (by k_asm) (by k_mem)); k_whole)))

section
variable {w : World} {pp : Program} {loose : List Str} {mg mb : Str → Option Value} {h₀ : Heap} {dp un : Nat} {fr : Option (List Env)} {gd : Option (List Code)} {s : Shared} {P : Result → Shared → Prop} {Q : Value → Shared → Prop}

theorem strs_snoc {x : Str} {t : Tok} : ∀ {us : List Value} {l : List Str}, StrsAre us l → StrsAre (us ++ [.str x t]) (l ++ [x])
  | _, _, .nil => .cons _ _ .nil
  | _, _, .cons y u h => .cons y u (strs_snoc h)
noncomputable def nextLine (cs : List Nat) (line : Int) : Int := if cs.take 1 = [10] then line + 1 else line

set_option maxHeartbeats 1000000 in
theorem rc_code {R : LexRef} {cs : List Nat} {line : Int} {pbs : List Str} {news : List (Addr × Obj)}
    (k₀ : h₀.StaysIn s.heap) (X : (hd.heap_39 w.params).In h₀) (T : TopRead pp loose mg mb h₀) (hroom : dp + 1 < recursionLimit)
    (hL : LexAt w R cs line pbs news) (hm : ∀ q ∈ news, s.heap.get? q.1 = some q.2 ∧ h₀.get? q.1 = none) (hn : cs.length < 1000)
    (h : ∀ h' tk t news', But R.addrs s.heap h' → LexAt w R cs.tail (nextLine cs line) pbs news' → (∀ q ∈ news', h'.get? q.1 = some q.2) → P (.ok (.ret (.str (mkS (cs.take 1)) t))) { s with heap := h', toks := tk }) :
    codeAny (model PR w) (AA dp un fr gd) (.call (.ref 83) ⟨[.ref R.lx], []⟩) P s := by
  have hL' := hL
  refine byG fun G9 k9 => ?_; rcases R with ⟨cell, sg, std, st, cr, fn, lxd, lx, pb⟩; all_goals (refine k9 ?_; clear k9 G9)
  refine byG fun G9 k9 => ?_; rcases hL with ⟨vs, us, n1, n2, t1, t2, t3, t4, t5, t6, u1, u2, u3, u4, u5, u6, u7, tq, pm, ctv, pb0, oc, co, fs, hord, hv, hu, hod, hof, hco, rfl⟩; all_goals (refine k9 ?_; clear k9 G9)
  refine' enterK (binds := [(Str.ofString "self", .ref lx)]) _ k₀ X T hm ?ho ?hcd ?hroom ?hb ?hloc ?_ ?c2 ?c3 ?c4 ?c5
  case ho => k_is
  case hcd => k_is
  case hroom => exact Nat.lt_of_succ_lt hroom
  case hb => exact BindsTo.of_eq rfl
  case hloc => exact locs rfl
  case c2 => rfl
  case c3 => rfl
  case c4 => rfl
  case c5 => decide
  intro g L h₁ kg bg og F N Xg Tg
  have fin : ∀ h' tk t news', g.StaysIn h' → News g L h' news' → LexAt w ⟨cell, sg, std, st, cr, fn, lxd, lx, pb⟩ cs.tail (nextLine cs line) pbs news' → P (.ok (.ret (.str (mkS (cs.take 1)) t))) { s with heap := h', toks := tk } :=
    fun h' tk t news' k N hl => h h' tk t news' (fun b o q e => k b o (bg b o q e)) hl fun q hq => (N q hq).1
  clear hm k₀ X T kg og h bg
  refine byG fun G9 k9 => ?_; rcases id hord with ⟨o1, o2, o3, o4, o5, o6, o7, o8, o9⟩; all_goals (refine k9 ?_; clear k9 G9)
  dsimp only at N o1 o2 o3 o4 o5 o6 o7 o8 o9 hco
  show wpAny _ _ _ _ _ _
  k_fold
  walk_at "mine go"
  rename Fr _ _ _ _ => F3
  rename News _ _ _ _ => N3
  refine lam_spec (R := ⟨cell, sg, std, st, cr, fn, lxd, lx, pb⟩) F3.keep Xg Tg hroom hL' (fun q hq => ⟨(N3 q hq).1, (N3 q hq).2.2⟩) hn fun h4 tk4 t4' nl4 k4 hl4 hn4 => ?_
  obtain ⟨F4, N4⟩ := lex_on (own := []) F3 N3 hL' hl4 (fun _ q => nomatch q) k4 hn4
  clear hL' hord k4 hn4 F3 N3 hod hof hco hv hu
  refine byG fun G9 k9 => ?_; rcases hl4 with ⟨vs, us, n1, n2, t1, t2, t3, t4, t5, t6, u1, u2, u3, u4, u5, u6, u7, tq, pm, ctv, pb0, oc, co, fs, hord, hv, hu, hod, hof, hco, rfl⟩; all_goals (refine k9 ?_; clear k9 G9)
  dsimp only [List.nil_append] at N4
  walk_at "mine go"
  · rename (mkS _ == _) = true => hc
    rename Fr _ _ _ _ => F5
    rename News _ _ _ _ => N5
    have e : nextLine cs line = line + 1 := if_pos (one_eq.mp hc)
    rw [e] at fin
    exact fin _ _ _ _ F5.keep N5 ⟨vs, us, n1, n2, _, _, _, _, _, _, u1, u2, u3, u4, u5, u6, u7, tq, pm, ctv, pb0, oc, co, fs, hord, hv, hu, hod, hof, hco, rfl⟩
  · rename (mkS _ == _) = false => hc
    rename Fr _ _ _ _ => F5
    rename News _ _ _ _ => N5
    have e : nextLine cs line = line := if_neg fun q => Bool.noConfusion ((one_eq.mpr q).symm.trans hc)
    rw [e] at fin
    exact fin _ _ _ _ F5.keep N5 ⟨vs, us, n1, n2, t1, t2, t3, t4, t5, t6, u1, u2, u3, u4, u5, u6, u7, tq, pm, ctv, pb0, oc, co, fs, hord, hv, hu, hod, hof, hco, rfl⟩

theorem rc_spec {R : LexRef} {cs : List Nat} {line : Int} {pbs : List Str} {news : List (Addr × Obj)}
    (k₀ : h₀.StaysIn s.heap) (X : (hd.heap_39 w.params).In h₀) (T : TopRead pp loose mg mb h₀) (hroom : dp + 1 < recursionLimit)
    (hL : LexAt w R cs line pbs news) (hm : ∀ q ∈ news, s.heap.get? q.1 = some q.2 ∧ h₀.get? q.1 = none) (hn : cs.length < 1000)
    (h : ∀ h' tk t news', But R.addrs s.heap h' → LexAt w R cs.tail (nextLine cs line) pbs news' → (∀ q ∈ news', h'.get? q.1 = some q.2) → Q (.str (mkS (cs.take 1)) t) { s with heap := h', toks := tk }) :
    wpAny (model PR w) (AA dp un fr gd) (call (.ref 83) [.ref R.lx]) Q NoE s :=
  wpAny_call (rc_code k₀ X T hroom hL hm hn h)

set_option maxHeartbeats 1000000 in
theorem push_spec {R : LexRef} {cs : List Nat} {line : Int} {pbs : List Str} {news : List (Addr × Obj)} {x : Str} {tx : Tok}
    (k₀ : h₀.StaysIn s.heap) (X : (hd.heap_39 w.params).In h₀) (T : TopRead pp loose mg mb h₀) (hroom : dp < recursionLimit)
    (hL : LexAt w R cs line pbs news) (hm : ∀ q ∈ news, s.heap.get? q.1 = some q.2 ∧ h₀.get? q.1 = none) (hn : pbs.length < 1000)
    (h : ∀ h' tk news', But R.addrs s.heap h' → LexAt w R cs line (pbs ++ [x]) news' → (∀ q ∈ news', h'.get? q.1 = some q.2) → Q .none { s with heap := h', toks := tk }) :
    wpAny (model PR w) (AA dp un fr gd) (call (.ref 97) [.ref R.lx, .str x tx]) Q NoE s := by
  refine byG fun G9 k9 => ?_; rcases R with ⟨cell, sg, std, st, cr, fn, lxd, lx, pb⟩; all_goals (refine k9 ?_; clear k9 G9)
  refine byG fun G9 k9 => ?_; rcases hL with ⟨vs, us, n1, n2, t1, t2, t3, t4, t5, t6, u1, u2, u3, u4, u5, u6, u7, tq, pm, ctv, pb0, oc, co, fs, hord, hv, hu, hod, hof, hco, rfl⟩; all_goals (refine k9 ?_; clear k9 G9)
  refine' enterM (binds := [(Str.ofString "self", .ref lx), (Str.ofString "token", .str x tx)]) _ k₀ X T hm ?ho ?hcd ?hroom ?hb ?hloc ?_ ?c2 ?c3 ?c4 ?c5
  case ho => k_is
  case hcd => k_is
  case hroom => exact hroom
  case hb => exact BindsTo.of_eq rfl
  case hloc => exact locs rfl
  case c2 => rfl
  case c3 => rfl
  case c4 => rfl
  case c5 => decide
  intro g L h₁ kg bg og F N Xg Tg
  have fin : ∀ h' tk news', g.StaysIn h' → News g L h' news' → LexAt w ⟨cell, sg, std, st, cr, fn, lxd, lx, pb⟩ cs line (pbs ++ [x]) news' → Q .none { s with heap := h', toks := tk } :=
    fun h' tk news' k N hl => h h' tk news' (fun b o q e => k b o (bg b o q e)) hl fun q hq => (N q hq).1
  have hul := hu.length
  clear hm k₀ X T kg og h bg
  refine byG fun G9 k9 => ?_; rcases id hord with ⟨o1, o2, o3, o4, o5, o6, o7, o8, o9⟩; all_goals (refine k9 ?_; clear k9 G9)
  dsimp only at N o1 o2 o3 o4 o5 o6 o7 o8 o9 hco
  show wpAny _ _ _ _ _ _
  k_fold
  walk_at "mine go"
  rename Fr _ _ _ _ => F5
  rename News _ _ _ _ => N5
  simp only [List.push_toArray] at N5
  exact fin _ _ _ F5.keep N5 ⟨vs, us ++ [.str x tx], n1, _, t1, t2, t3, t4, t5, t6, u1, u2, u3, u4, u5, u6, u7, tq, pm, ctv, pb0, oc, co, fs, hord, hv, strs_snoc hu, hod, hof, hco, rfl⟩
end
-- C6
/-- line ends in a text -/
noncomputable def nlc : List Nat → Int
  | [] => 0
  | c :: r => (if c = 10 then 1 else 0) + nlc r
theorem nextLine_nlc (cs : List Nat) (line : Int) : nextLine cs line + nlc cs.tail = line + nlc cs := by
  cases cs with
  | nil => rfl
  | cons c r =>
    have e : nextLine (c :: r) line = if c = 10 then line + 1 else line := by
      unfold nextLine
      by_cases h : c = 10
      · subst h; rfl
      · rw [if_neg h, if_neg (fun q => h (by injection q))]
    rw [e]
    show _ + nlc r = line + ((if c = 10 then 1 else 0) + nlc r)
    by_cases h : c = 10
    · rw [if_pos h, if_pos h]; exact ar14
    · rw [if_neg h, if_neg h]; exact ar15
noncomputable def isWs (c : Nat) : Bool := c == 10 || c == 9 || c == 13 || c == 32
noncomputable def inQ : List Nat → List Nat → List Nat × List Nat
  | [], t => (t, [])
  | c :: r, t => if c = 34 then (t, r) else if c = 92 then (match r with
    | [] => (t, [])
    | d :: r' => inQ r' (t ++ [d])) else inQ r (t ++ [c])
noncomputable def inP : List Nat → List Nat → List Nat × List Nat
  | [], t => (t, [])
  | c :: r, t => if isWs c then (t, r) else if c = 92 then (match r with
    | [] => (t, [])
    | d :: r' => inP r' (t ++ [d])) else inP r (t ++ [c])
noncomputable def getTok : List Nat → List Nat × List Nat
  | [] => ([], [])
  | c :: r => if isWs c then getTok r else if c = 34 then inQ r [] else if c = 92 then (match r with
    | [] => ([], [])
    | d :: r' => inP r' [d]) else inP r [c]

theorem inQ_cons (c : Nat) (r t : List Nat) : inQ (c :: r) t = if c = 34 then (t, r) else if c = 92 then inQ r.tail (t ++ r.take 1) else inQ r (t ++ [c]) := by
  cases r with
  | nil => simp [inQ]
  | cons d r => simp [inQ]
theorem inP_cons (c : Nat) (r t : List Nat) : inP (c :: r) t = if isWs c then (t, r) else if c = 92 then inP r.tail (t ++ r.take 1) else inP r (t ++ [c]) := by
  cases r with
  | nil => simp [inP]
  | cons d r => simp [inP]
theorem getTok_cons (c : Nat) (r : List Nat) : getTok (c :: r) = if isWs c then getTok r else if c = 34 then inQ r [] else if c = 92 then inP r.tail (r.take 1) else inP r [c] := by
  cases r with
  | nil => simp [getTok, inP]
  | cons d r => simp [getTok]

section
variable {w : World} {pp : Program} {loose : List Str} {mg mb : Str → Option Value} {h₀ : Heap} {dp un : Nat} {fr : Option (List Env)} {gd : Option (List Code)} {s : Shared} {P : Result → Shared → Prop} {Q : Value → Shared → Prop}
  {L : Addr} {m : Str → Option Value}

theorem iter_news {prog : Program} {A : Around} {E : Value → Shared → Prop} {q : Addr} {f self : Value} {t : Tok} {news : List (Addr × Obj)} (F : Fr h₀ L s.heap m) (N : News h₀ L s.heap news) (hq : (q, methodObj f self) ∈ news)
    (h : ∀ it h', Fr h₀ L h' m → News h₀ L h' ((it, cit q t) :: news) → (∀ p ∈ news, @LT.lt Nat _ p.1 it) → Q (.ref it) { s with heap := h' }) :
    wpAny (model prog w) A (call (.builtin "iter") [.ref q, .str (Str.ofString "") t]) Q E s :=
  iter_make (N _ hq).1 (h _ _ (F.push _) (N.push F _) fun p hp => Heap.lt_size (N p hp).1)

noncomputable abbrev its (it q : Addr) (t : Tok) (x : Addr) : List (Addr × Obj) := [(it, cit q t), (q, methodObj (.ref 83) (.ref x))]
noncomputable abbrev itsEnd (it q : Addr) (x : Addr) : List (Addr × Obj) := [(it, citEnd), (q, methodObj (.ref 83) (.ref x))]
theorem lex_next {R : LexRef} {cs : List Nat} {line : Int} {pbs : List Str} {nl : List (Addr × Obj)} {it q : Addr} {t : Tok} {Q : Option Value → Shared → Prop}
    (F : Fr h₀ L s.heap m) (X : (hd.heap_39 w.params).In h₀) (T : TopRead pp loose mg mb h₀) (hroom : dp + 1 < recursionLimit)
    (N : News h₀ L s.heap (its it q t R.lx ++ nl)) (hL : LexAt w R cs line pbs nl) (hn : cs.length < 1000) (hne : q ≠ it) (hi : it ∉ R.addrs) (hqa : q ∉ R.addrs)
    (hE : cs = [] → ∀ h' tk nl' line', Fr h₀ L h' m → News h₀ L h' (itsEnd it q R.lx ++ nl') → LexAt w R [] line' pbs nl' → line' = line → Q none { s with heap := h', toks := tk })
    (hC : ∀ c r, cs = c :: r → ∀ h' tk t' nl' line', Fr h₀ L h' m → News h₀ L h' (its it q t R.lx ++ nl') → LexAt w R r line' pbs nl' → line' + nlc r = line + nlc cs → Q (some (.str (mkS [c]) t')) { s with heap := h', toks := tk }) :
    wpAny (model PR w) (AA dp un fr gd) (pyNext (.ref it)) Q NoE s := by
  have hd : ∀ p ∈ its it q t R.lx, p.1 ∉ R.addrs := fun p hp => by
    cases hp with
    | head => exact hi
    | tail _ hp => cases hp with
      | head => exact hqa
      | tail _ hp => cases hp
  have f83 := F.keep _ _ (X 83 _ (by k_is))
  refine cit_next rfl (N (it, _) (.head _)).1 (N (q, _) (.tail _ (.head _))).1 f83 rfl ?_
  refine rc_code (R := R) F.keep X T hroom hL (fun p hp => ⟨(N p (List.mem_append_right _ hp)).1, (N p (List.mem_append_right _ hp)).2.2⟩) hn fun h' tk t' nl' k hl' hn' => ?_
  obtain ⟨F', N'⟩ := lex_on F N hL hl' hd k hn'
  refine ⟨_, _, rfl, (N' (it, _) (.head _)).1, (N' (q, _) (.tail _ (.head _))).1, F'.keep _ _ (X 83 _ (by k_is)), fun hc => ?_, fun hc h2 hb he => ?_⟩
  · cases cs with
    | nil => exact absurd rfl hc
    | cons c r => exact hC c r rfl h' tk t' nl' _ F' N' hl' (nextLine_nlc (c :: r) line)
  · cases cs with
    | cons c r =>
      exfalso
      have : 1 = 0 := congrArg (fun x => x.cps.size) hc
      exact absurd this (by decide)
    | nil =>
      have ne : ∀ b o, (b, o) ∈ ((q, methodObj (.ref 83) (.ref R.lx)) :: nl') → b ≠ it := fun b o hb => by
        cases hb with
        | head => exact hne
        | tail _ hb => exact fun e => hi (e ▸ hl'.mem _ hb)
      refine hE rfl h2 tk nl' _ (fr_but F' (as := [it]) (fun b o n e => hb b o (fun q => n (by rw [q]; exact .head _)) e) (fun q => (N' (it, _) (.head _)).2.1 (by cases q with | head => rfl | tail _ q => cases q)) fun b q => by
        cases q with
        | head => exact (N' (it, _) (.head _)).2.2
        | tail _ q => cases q) ?_ hl' rfl
      intro p hp
      cases hp with
      | head => exact ⟨he, (N' (it, _) (.head _)).2⟩
      | tail _ hp =>
        have z := N' p (.tail _ hp)
        exact ⟨hb _ _ (ne p.1 p.2 hp) z.1, z.2⟩
theorem lex_ended {R : LexRef} {cs : List Nat} {line : Int} {pbs : List Str} {nl : List (Addr × Obj)} {it q x : Addr} {Q : Option Value → Shared → Prop}
    (F : Fr h₀ L s.heap m) (N : News h₀ L s.heap (itsEnd it q x ++ nl)) (hL : LexAt w R cs line pbs nl) (hi : it ∉ R.addrs)
    (h : ∀ h', Fr h₀ L h' m → News h₀ L h' nl → Q none { s with heap := h' }) : wpAny (model PR w) (AA dp un fr gd) (pyNext (.ref it)) Q NoE s := by
  refine cit_ended rfl (N (it, _) (.head _)).1 fun h' k => h h' ?_ ?_
  · refine fr_but F (as := [it]) (fun b o n e => k b o (fun q => n (by rw [q]; exact .head _)) e) (fun q => (N (it, _) (.head _)).2.1 (by cases q with | head => rfl | tail _ q => cases q)) fun b q => by
        cases q with
        | head => exact (N (it, _) (.head _)).2.2
        | tail _ q => cases q
  · intro p hp
    have z := N p (.tail _ (.tail _ hp))
    exact ⟨k _ _ (fun e => hi (e ▸ hL.mem _ hp)) z.1, z.2⟩
end
-- C7
theorem mkS_app (a b : List Nat) : mkS a ++ mkS b = mkS (a ++ b) := by
  show Str.mk (_ ++ _) = Str.mk _
  congr 1
  simp [mkS]
theorem mkS_len (a : List Nat) : (mkS a).length = a.length := rfl
theorem ws_occ (c : Nat) : (Builtin.Str.occurrences (Str.ofString "\n\t\x0d ") (mkS [c]) 0 (Str.ofString "\n\t\x0d ").length 1).isEmpty = !isWs c := by
  have h := StrLaws.found_one (Str.ofString "\n\t\x0d ") c
  have e : (Str.ofString "\n\t\x0d ").cps.toList = [10, 9, 13, 32] := by decide
  have h2 : decide (c ∈ [10, 9, 13, 32]) = isWs c := by
    unfold isWs
    by_cases a : c = 10 <;> by_cases b : c = 9 <;> by_cases d : c = 13 <;> by_cases f : c = 32 <;> simp [a, b, d, f]
  rw [e, h2] at h
  rw [← h, Bool.not_not]
  rfl
local macro_rules | `(tactic| walk_at "inplaceOp Add str str") => `(tactic| (k_here; k_dflt (refine SBL.iadd (hsz := ?hsz) ?_); (case hsz => (rw [mkS_len, mkS_len, sizeLine_eq]; simp only [List.length_append, List.length_cons, List.length_nil, List.length_take] at *; omega)); intro _ _ _))
section
variable {w : World} {pp : Program} {loose : List Str} {mg mb : Str → Option Value} {h₀ : Heap} {dp un : Nat} {fr : Option (List Env)} {gd : Option (List Code)} {s : Shared} {P : Result → Shared → Prop} {Q : Value → Shared → Prop}

inductive LexV (w : World) (R : LexRef) (line : Int) (news : List (Addr × Obj)) : Prop
  | mk (n2 : Nat) (t1 t2 t3 t4 t5 t6 : Tok) (mp : (R.pb, listOf (List.toArray []) n2) ∈ news) (mx : (R.lx, instObj 100 R.lxd) ∈ news) (md : (R.lxd, lexDict w t1 t2 t3 t4 t5 t6 line (.ref R.st) R.pb) ∈ news)
theorem LexAt.v {w : World} {R : LexRef} {cs : List Nat} {line : Int} {news : List (Addr × Obj)} (x : LexAt w R cs line [] news) : LexV w R line news := by
  rcases x with ⟨vs, us, n1, n2, t1, t2, t3, t4, t5, t6, _, _, _, _, _, _, _, _, _, _, _, _, _, _, _, _, hu, _, _, _, rfl⟩
  cases hu
  exact ⟨n2, t1, t2, t3, t4, t5, t6, at0, at1, at2⟩
theorem news_dup {g h : Heap} {L : Addr} {a : Addr × Obj} {l : List (Addr × Obj)} (N : News g L h l) (hm : a ∈ l) : News g L h (a :: l) := List.forall_mem_cons.mpr ⟨N a hm, N⟩
/-- the lexer between two signs -/
inductive LexSt (w : World) (g : Heap) (L : Addr) (s₀ : Shared) (R : LexRef) (it q : Addr) (o : Obj) (cs tok : List Nat) (tot : Int) (s : Shared) : Prop
  | mk (h : Heap) (tk : Nat) (m : Str → Option Value) (nl : List (Addr × Obj)) (line : Int) (t : Tok) (e : s = { s₀ with heap := h, toks := tk }) (F : Fr g L h m) (N : News g L h ([(it, o), (q, methodObj (.ref 83) (.ref R.lx))] ++ nl)) (hl : LexAt w R cs line [] nl) (hn : line + nlc cs = tot)
    (ms : m (Str.ofString "self") = some (.ref R.lx)) (mf : m (Str.ofString "fiter") = some (.ref it)) (mt : m (Str.ofString "token") = some (.str (mkS tok) t))

set_option maxHeartbeats 4000000 in
theorem tok_spec {R : LexRef} {cs : List Nat} {line : Int} {news : List (Addr × Obj)}
    (k₀ : h₀.StaysIn s.heap) (X : (hd.heap_39 w.params).In h₀) (T : TopRead pp loose mg mb h₀) (hroom : dp + 2 < recursionLimit)
    (hL : LexAt w R cs line [] news) (hm : ∀ q ∈ news, s.heap.get? q.1 = some q.2 ∧ h₀.get? q.1 = none) (hn : cs.length < 1000)
    (h : ∀ h' tk t news' line', But R.addrs s.heap h' → LexAt w R (getTok cs).2 line' [] news' → line' + nlc (getTok cs).2 = line + nlc cs → (∀ q ∈ news', h'.get? q.1 = some q.2) → Q (.str (mkS (getTok cs).1) t) { s with heap := h', toks := tk }) :
    wpAny (model PR w) (AA dp un fr gd) (call (.ref 90) [.ref R.lx]) Q NoE s := by
  have hL' := hL
  have ha := hL.addr
  refine byG fun G9 k9 => ?_; rcases R with ⟨cell, sg, std, st, cr, fn, lxd, lx, pb⟩; all_goals (refine k9 ?_; clear k9 G9)
  refine byG fun G9 k9 => ?_; rcases hL with ⟨vs, us, n1, n2, t1, t2, t3, t4, t5, t6, u1, u2, u3, u4, u5, u6, u7, tq, pm, ctv, pb0, oc, co, fs, hord, hv, hu, hod, hof, hco, rfl⟩; all_goals (refine k9 ?_; clear k9 G9)
  cases hu
  refine' enterM (binds := [(Str.ofString "self", .ref lx)]) _ k₀ X T hm ?ho ?hcd ?hroom ?hb ?hloc ?_ ?c2 ?c3 ?c4 ?c5
  case ho => k_is
  case hcd => k_is
  case hroom => exact Nat.lt_of_succ_lt (Nat.lt_of_succ_lt hroom)
  case hb => exact BindsTo.of_eq rfl
  case hloc => exact locs rfl
  case c2 => rfl
  case c3 => rfl
  case c4 => rfl
  case c5 => decide
  intro g L h₁ kg bg og F N Xg Tg
  have fin : ∀ h' tk t news' line', g.StaysIn h' → News g L h' news' → LexAt w ⟨cell, sg, std, st, cr, fn, lxd, lx, pb⟩ (getTok cs).2 line' [] news' → line' + nlc (getTok cs).2 = line + nlc cs → Q (.str (mkS (getTok cs).1) t) { s with heap := h', toks := tk } :=
    fun h' tk t news' line' k N hl hli => h h' tk t news' line' (fun b o q e => k b o (bg b o q e)) hl hli fun q hq => (N q hq).1
  clear hm k₀ X T kg og h bg
  refine byG fun G9 k9 => ?_; rcases id hord with ⟨o1, o2, o3, o4, o5, o6, o7, o8, o9⟩; all_goals (refine k9 ?_; clear k9 G9)
  dsimp only at N o1 o2 o3 o4 o5 o6 o7 o8 o9 hco
  show wpAny _ _ _ _ _ _
  k_fold
  walk_at "mine go"
  rename Fr _ _ _ _ => F2
  rename News _ _ _ _ => N2
  rename Addr => q
  refine iter_news F2 N2 (.head _) fun it h3 F3 N3 l3 => ?_
  k_lt l3
  walk_at "mine go"
  refine wpAny_For ?_
  walk_at "mine go"
  rename Fr _ _ _ _ => F4
  rename News _ _ _ _ => N4
  refine cit_iter (N4 (it, _) (.head _)).1 ?_
  have hqR : q ∉ LexRef.addrs ⟨cell, sg, std, st, cr, fn, lxd, lx, pb⟩ := by
    simp only [LexRef.addrs, List.mem_cons, List.not_mem_nil, or_false, not_or]
    refine ⟨?_, ?_, ?_, ?_, ?_, ?_, ?_, ?_, ?_⟩ <;> (refine neN ?_; omega)
  have hiR : it ∉ LexRef.addrs ⟨cell, sg, std, st, cr, fn, lxd, lx, pb⟩ := by
    simp only [LexRef.addrs, List.mem_cons, List.not_mem_nil, or_false, not_or]
    refine ⟨?_, ?_, ?_, ?_, ?_, ?_, ?_, ?_, ?_⟩ <;> (refine neN ?_; (first | exact Nat.ne_of_gt l3.2.1 | exact Nat.ne_of_gt l3.2.2.1 | exact Nat.ne_of_gt l3.2.2.2.1 | exact Nat.ne_of_gt l3.2.2.2.2.1 | exact Nat.ne_of_gt l3.2.2.2.2.2.1 | exact Nat.ne_of_gt l3.2.2.2.2.2.2.1 | exact Nat.ne_of_gt l3.2.2.2.2.2.2.2.1 | exact Nat.ne_of_gt l3.2.2.2.2.2.2.2.2.1 | exact Nat.ne_of_gt l3.2.2.2.2.2.2.2.2.2))
  have hqi : q ≠ it := by refine neN ?_; exact Nat.ne_of_lt l3.1
  have hl : LexAt w ⟨cell, sg, std, st, cr, fn, lxd, lx, pb⟩ cs line [] _ := hL'
  clear l3
  let I : Nat → Shared → Prop := fun n s' => (∃ cs1 t0, n = cs1.length ∧ cs1.length < 1000 ∧ LexSt w g L s ⟨cell, sg, std, st, cr, fn, lxd, lx, pb⟩ it q (cit q t0) cs1 [] (line + nlc cs) s' ∧ getTok cs1 = getTok cs) ∨
    (∃ tok, n = 0 ∧ LexSt w g L s ⟨cell, sg, std, st, cr, fn, lxd, lx, pb⟩ it q citEnd [] tok (line + nlc cs) s' ∧ getTok cs = (tok, []))
  refine for_own I cs.length (.inl ⟨cs, _, rfl, hn, ⟨_, _, _, _, _, _, rfl, F4, N4, hl, rfl, rfl, rfl, rfl⟩, rfl⟩) (fun _ _ q => q) ?_
  intro n s' hI J9 kJ9
  rcases hI with ⟨cs1, t0, rfl, hn1, ⟨h5, tk5, m5, nl5, line5, t5', rfl, F5, N5, hl5, hli, ms, mf, mt⟩, hg⟩ | ⟨tok, rfl, ⟨h5, tk5, m5, nl5, line5, t5', rfl, F5, N5, hl5, hli, ms, mf, mt⟩, hg⟩
  · refine lex_next F5 Xg Tg (show dp + 1 + 1 < _ from hroom) N5 hl5 hn1 hqi hiR hqR ?_ ?_
    · rintro rfl h6 tk6 nl6 line6 F6 N6 hl6 rfl
      have e : getTok cs = ([], []) := hg.symm
      rw [e] at fin
      try dsimp only
      walk_at "mine go"
      try dsimp only
      exact fin _ _ _ _ _ F6.keep (fun p hp => N6 p (List.mem_append_right _ hp)) hl6 hli
    · rintro c r rfl h6 tk6 t6 nl6 line6 F6 N6 hl6 hli6
      try dsimp only
      refine wpAny_pure ?_
      refine byG fun G9 k9 => ?_; rcases hl6.v with ⟨n26, a1, a2, a3, a4, a5, a6, mp6, mx6, md6⟩; all_goals (refine k9 ?_; clear k9 G9)
      replace N6 := news_dup (news_dup N6 (List.mem_append_right _ md6)) (.tail _ (List.mem_append_right _ mx6))
      clear mp6 mx6 md6
      have hn1' : r.length + 1 < 1000 := hn1
      rw [getTok_cons] at hg
      walk_at "mine go"
      · rename (List.isEmpty _) = true => hw
        rename (mkS _ == _) = true => hc
        have hw' : isWs c = false := by rw [ws_occ] at hw; simpa using hw
        have hc' : c = 34 := by have := one_eq.mp hc; injection this
        rw [hw', if_neg (by decide), if_pos hc'] at hg
        refine wpAny_For ?_
        walk_at "mine go"
        rename Fr _ _ _ _ => F9
        rename News _ _ _ _ => N9
        refine cit_iter (N9 (it, _) (.tail _ (.tail _ (.head _)))).1 ?_
        let J : Nat → Shared → Prop := fun n s' => ∃ cs1 tok t0, n = cs1.length ∧ tok.length + cs1.length < 1000 ∧ LexSt w g L s ⟨cell, sg, std, st, cr, fn, lxd, lx, pb⟩ it q (cit q t0) cs1 tok (line + nlc cs) s' ∧ inQ cs1 tok = getTok cs
        refine for_own J (r).length ⟨r, [], _, rfl, by show 0 + r.length < 1000; exact ar16 hn1', ⟨_, _, _, _, _, _, rfl, F9, fun p hp => N9 p (.tail _ (.tail _ hp)), hl6, (hli6.trans hli), ms, mf, mt⟩, hg⟩ (fun _ _ q => q) ?_
        intro n s' hJ J9 kJ9
        refine byG fun G9 k9 => ?_; rcases hJ with ⟨cs2, tok2, t02, rfl, hn2, ⟨h7, tk7, m7, nl7, line7, t7', rfl, F7, N7, hl7, hli7, ms7, mf7, mt7⟩, hg7⟩; all_goals (refine k9 ?_; clear k9 G9)
        refine lex_next F7 Xg Tg (show dp + 1 + 1 < _ from hroom) N7 hl7 (by exact ar17 hn2) hqi hiR hqR ?_ ?_
        · rintro rfl h8 tk8 nl8 line8 F8 N8 hl8 rfl
          try dsimp only
          walk_at "mine go"
          exact ⟨0, Nat.succ_pos _, .inr ⟨tok2, rfl, ⟨_, _, _, _, _, _, rfl, F8, N8, hl8, hli7, ms7, mf7, mt7⟩, hg7.symm⟩⟩
        · rintro c2 r2 rfl h8 tk8 t8 nl8 line8 F8 N8 hl8 hli8
          have hn2' : tok2.length + (r2.length + 1) < 1000 := hn2
          try dsimp only
          refine wpAny_pure ?_
          refine byG fun G9 k9 => ?_; rcases hl8.v with ⟨n28, a1, a2, a3, a4, a5, a6, mp8, mx8, md8⟩; all_goals (refine k9 ?_; clear k9 G9)
          replace N8 := news_dup (news_dup N8 (List.mem_append_right _ md8)) (.tail _ (List.mem_append_right _ mx8))
          clear mp8 mx8 md8
          walk_at "mine go"
          · try dsimp only
            rename (mkS _ == _) = true => hd0
            have hd1 : c2 = 34 := by have := one_eq.mp hd0; injection this
            rw [inQ_cons, if_pos hd1] at hg7
            rename Fr _ _ _ _ => F10
            rename News _ _ _ _ => N10
            rw [← hg7] at fin
            exact fin _ _ _ _ _ F10.keep (fun p hp => N10 p (.tail _ (.tail _ (.tail _ (.tail _ hp))))) hl8 (hli8.trans hli7)
          · rename (mkS _ == _) = true => hd2
            rename (mkS _ == _) = false => hd0
            have hd1 : c2 ≠ 34 := fun q => by rw [q] at hd0; exact Bool.noConfusion ((one_eq.mpr rfl).symm.trans hd0)
            have hd3 : c2 = 92 := by have := one_eq.mp hd2; injection this
            rw [inQ_cons, if_neg hd1, if_pos hd3] at hg7
            rename Fr _ _ _ _ => F10
            rename News _ _ _ _ => N10
            refine rc_spec (R := ⟨cell, sg, std, st, cr, fn, lxd, lx, pb⟩) F10.keep Xg Tg (show dp + 1 + 1 < _ from hroom) hl8 (fun p hp => ⟨(N10 p (.tail _ (.tail _ (.tail _ (.tail _ hp))))).1, (N10 p (.tail _ (.tail _ (.tail _ (.tail _ hp))))).2.2⟩) (by exact ar18 hn2') fun h11 tk11 t11 nl11 k11 hl11 hn11 => ?_
            obtain ⟨F11, N11⟩ := lex_on (own := [(it, _), (q, _)]) F10 (fun p hp => N10 p (.tail _ (.tail _ hp))) hl8 hl11 (fun p hp => by
                        cases hp with
                        | head => exact hiR
                        | tail _ hp => cases hp with
                          | head => exact hqR
                          | tail _ hp => cases hp) k11 hn11
            walk_at "mine go"
            try dsimp only
            rename Fr _ _ _ _ => F12
            rename News _ _ _ _ => N12
            exact ⟨r2.tail.length, by simp only [List.length_tail, List.length_cons]; exact ar19, r2.tail, tok2 ++ r2.take 1, t02, rfl, by simp only [List.length_append, List.length_take, List.length_tail]; exact ar20 hn2', ⟨_, _, _, _, _, _, rfl, F12, N12, hl11, (nextLine_nlc r2 line8).trans (hli8.trans hli7), ms7, mf7, by rw [← mkS_app]; rfl⟩, hg7⟩
          · try dsimp only
            rename (mkS _ == _) = false => hd2
            rename (mkS _ == Str.ofString "\"") = false => hd0
            have hd1 : c2 ≠ 34 := fun q => by rw [q] at hd0; exact Bool.noConfusion ((one_eq.mpr rfl).symm.trans hd0)
            have hd3 : c2 ≠ 92 := fun q => by rw [q] at hd2; exact Bool.noConfusion ((one_eq.mpr rfl).symm.trans hd2)
            rw [inQ_cons, if_neg hd1, if_neg hd3] at hg7
            rename Fr _ _ _ _ => F12
            rename News _ _ _ _ => N12
            exact ⟨r2.length, Nat.lt_succ_self _, r2, tok2 ++ [c2], t02, rfl, by simp only [List.length_append, List.length_cons, List.length_nil]; exact ar21 hn2', ⟨_, _, _, _, _, _, rfl, F12, fun p hp => N12 p (.tail _ (.tail _ hp)), hl8, hli8.trans hli7, ms7, mf7, by rw [← mkS_app]; rfl⟩, hg7⟩
      · rename (List.isEmpty _) = true => hw
        rename (mkS _ == _) = true => hc
        rename (mkS _ == _) = false => hq0
        have hw' : isWs c = false := by rw [ws_occ] at hw; simpa using hw
        have hq : c ≠ 34 := fun q => by rw [q] at hq0; exact Bool.noConfusion ((one_eq.mpr rfl).symm.trans hq0)
        have hc' : c = 92 := by have := one_eq.mp hc; injection this
        rw [hw', if_neg (by decide), if_neg hq, if_pos hc'] at hg
        rename Fr _ _ _ _ => F20
        rename News _ _ _ _ => N20
        refine rc_spec (R := ⟨cell, sg, std, st, cr, fn, lxd, lx, pb⟩) F20.keep Xg Tg (show dp + 1 + 1 < _ from hroom) hl6 (fun p hp => ⟨(N20 p (.tail _ (.tail _ (.tail _ (.tail _ hp))))).1, (N20 p (.tail _ (.tail _ (.tail _ (.tail _ hp))))).2.2⟩) (by exact (Nat.lt_trans (Nat.lt_add_of_pos_right (by decide)) hn1')) fun h21 tk21 t21 nl21 k21 hl21 hn21 => ?_
        obtain ⟨F21, N21⟩ := lex_on (own := [(it, _), (q, _)]) F20 (fun p hp => N20 p (.tail _ (.tail _ hp))) hl6 hl21 (fun p hp => by
                    cases hp with
                    | head => exact hiR
                    | tail _ hp => cases hp with
                      | head => exact hqR
                      | tail _ hp => cases hp) k21 hn21
        walk_at "mine go"
        refine wpAny_For ?_
        walk_at "mine go"
        rename Fr _ _ _ _ => F9
        rename News _ _ _ _ => N9
        refine cit_iter (N9 (it, _) (.head _)).1 ?_
        let J : Nat → Shared → Prop := fun n s' => ∃ cs1 tok t0, n = cs1.length ∧ tok.length + cs1.length < 1000 ∧ LexSt w g L s ⟨cell, sg, std, st, cr, fn, lxd, lx, pb⟩ it q (cit q t0) cs1 tok (line + nlc cs) s' ∧ inP cs1 tok = getTok cs
        refine for_own J (r.tail).length ⟨r.tail, [] ++ r.take 1, _, rfl, by simp only [List.nil_append, List.length_take, List.length_tail]; exact ar22 hn1', ⟨_, _, _, _, _, _, rfl, F9, N9, hl21, ((nextLine_nlc r line6).trans (hli6.trans hli)), ms, mf, (by rw [← mkS_app]; rfl)⟩, hg⟩ (fun _ _ q => q) ?_
        intro n s' hJ J9 kJ9
        refine byG fun G9 k9 => ?_; rcases hJ with ⟨cs2, tok2, t02, rfl, hn2, ⟨h7, tk7, m7, nl7, line7, t7', rfl, F7, N7, hl7, hli7, ms7, mf7, mt7⟩, hg7⟩; all_goals (refine k9 ?_; clear k9 G9)
        refine lex_next F7 Xg Tg (show dp + 1 + 1 < _ from hroom) N7 hl7 (by exact ar17 hn2) hqi hiR hqR ?_ ?_
        · rintro rfl h8 tk8 nl8 line8 F8 N8 hl8 rfl
          try dsimp only
          walk_at "mine go"
          exact ⟨0, Nat.succ_pos _, .inr ⟨tok2, rfl, ⟨_, _, _, _, _, _, rfl, F8, N8, hl8, hli7, ms7, mf7, mt7⟩, hg7.symm⟩⟩
        · rintro c2 r2 rfl h8 tk8 t8 nl8 line8 F8 N8 hl8 hli8
          have hn2' : tok2.length + (r2.length + 1) < 1000 := hn2
          try dsimp only
          refine wpAny_pure ?_
          refine byG fun G9 k9 => ?_; rcases hl8.v with ⟨n28, a1, a2, a3, a4, a5, a6, mp8, mx8, md8⟩; all_goals (refine k9 ?_; clear k9 G9)
          replace N8 := news_dup (news_dup N8 (List.mem_append_right _ md8)) (.tail _ (List.mem_append_right _ mx8))
          clear mp8 mx8 md8
          walk_at "mine go"
          · rename (mkS _ == _) = true => hd2
            rename (List.isEmpty _) = true => hd0
            have hd1 : isWs c2 = false := by rw [ws_occ] at hd0; simpa using hd0
            have hd3 : c2 = 92 := by have := one_eq.mp hd2; injection this
            rw [inP_cons, hd1, if_neg (by decide), if_pos hd3] at hg7
            rename Fr _ _ _ _ => F10
            rename News _ _ _ _ => N10
            refine rc_spec (R := ⟨cell, sg, std, st, cr, fn, lxd, lx, pb⟩) F10.keep Xg Tg (show dp + 1 + 1 < _ from hroom) hl8 (fun p hp => ⟨(N10 p (.tail _ (.tail _ (.tail _ (.tail _ hp))))).1, (N10 p (.tail _ (.tail _ (.tail _ (.tail _ hp))))).2.2⟩) (by exact ar18 hn2') fun h11 tk11 t11 nl11 k11 hl11 hn11 => ?_
            obtain ⟨F11, N11⟩ := lex_on (own := [(it, _), (q, _)]) F10 (fun p hp => N10 p (.tail _ (.tail _ hp))) hl8 hl11 (fun p hp => by
                        cases hp with
                        | head => exact hiR
                        | tail _ hp => cases hp with
                          | head => exact hqR
                          | tail _ hp => cases hp) k11 hn11
            walk_at "mine go"
            try dsimp only
            rename Fr _ _ _ _ => F12
            rename News _ _ _ _ => N12
            exact ⟨r2.tail.length, by simp only [List.length_tail, List.length_cons]; exact ar19, r2.tail, tok2 ++ r2.take 1, t02, rfl, by simp only [List.length_append, List.length_take, List.length_tail]; exact ar20 hn2', ⟨_, _, _, _, _, _, rfl, F12, N12, hl11, (nextLine_nlc r2 line8).trans (hli8.trans hli7), ms7, mf7, by rw [← mkS_app]; rfl⟩, hg7⟩
          · try dsimp only
            rename (mkS _ == _) = false => hd2
            rename (List.isEmpty _) = true => hd0
            have hd1 : isWs c2 = false := by rw [ws_occ] at hd0; simpa using hd0
            have hd3 : c2 ≠ 92 := fun q => by rw [q] at hd2; exact Bool.noConfusion ((one_eq.mpr rfl).symm.trans hd2)
            rw [inP_cons, hd1, if_neg (by decide), if_neg hd3] at hg7
            rename Fr _ _ _ _ => F12
            rename News _ _ _ _ => N12
            exact ⟨r2.length, Nat.lt_succ_self _, r2, tok2 ++ [c2], t02, rfl, by simp only [List.length_append, List.length_cons, List.length_nil]; exact ar21 hn2', ⟨_, _, _, _, _, _, rfl, F12, fun p hp => N12 p (.tail _ (.tail _ hp)), hl8, hli8.trans hli7, ms7, mf7, by rw [← mkS_app]; rfl⟩, hg7⟩
          · try dsimp only
            rename (List.isEmpty _) = false => hd0
            have hd1 : isWs c2 = true := by rw [ws_occ] at hd0; simpa using hd0
            rw [inP_cons, if_pos hd1] at hg7
            rename Fr _ _ _ _ => F10
            rename News _ _ _ _ => N10
            rw [← hg7] at fin
            exact fin _ _ _ _ _ F10.keep (fun p hp => N10 p (.tail _ (.tail _ (.tail _ (.tail _ hp))))) hl8 (hli8.trans hli7)
      · rename (List.isEmpty _) = true => hw
        rename (mkS _ == _) = false => hc
        rename (mkS _ == Str.ofString "\"") = false => hq0
        have hw' : isWs c = false := by rw [ws_occ] at hw; simpa using hw
        have hq : c ≠ 34 := fun q => by rw [q] at hq0; exact Bool.noConfusion ((one_eq.mpr rfl).symm.trans hq0)
        have hc' : c ≠ 92 := fun q => by rw [q] at hc; exact Bool.noConfusion ((one_eq.mpr rfl).symm.trans hc)
        rw [hw', if_neg (by decide), if_neg hq, if_neg hc'] at hg
        refine wpAny_For ?_
        walk_at "mine go"
        rename Fr _ _ _ _ => F9
        rename News _ _ _ _ => N9
        refine cit_iter (N9 (it, _) (.tail _ (.tail _ (.head _)))).1 ?_
        let J : Nat → Shared → Prop := fun n s' => ∃ cs1 tok t0, n = cs1.length ∧ tok.length + cs1.length < 1000 ∧ LexSt w g L s ⟨cell, sg, std, st, cr, fn, lxd, lx, pb⟩ it q (cit q t0) cs1 tok (line + nlc cs) s' ∧ inP cs1 tok = getTok cs
        refine for_own J (r).length ⟨r, [] ++ [c], _, rfl, by simp only [List.nil_append, List.length_cons, List.length_nil]; exact ar23 hn1', ⟨_, _, _, _, _, _, rfl, F9, fun p hp => N9 p (.tail _ (.tail _ hp)), hl6, (hli6.trans hli), ms, mf, (by rw [← mkS_app]; rfl)⟩, hg⟩ (fun _ _ q => q) ?_
        intro n s' hJ J9 kJ9
        refine byG fun G9 k9 => ?_; rcases hJ with ⟨cs2, tok2, t02, rfl, hn2, ⟨h7, tk7, m7, nl7, line7, t7', rfl, F7, N7, hl7, hli7, ms7, mf7, mt7⟩, hg7⟩; all_goals (refine k9 ?_; clear k9 G9)
        refine lex_next F7 Xg Tg (show dp + 1 + 1 < _ from hroom) N7 hl7 (by exact ar17 hn2) hqi hiR hqR ?_ ?_
        · rintro rfl h8 tk8 nl8 line8 F8 N8 hl8 rfl
          try dsimp only
          walk_at "mine go"
          exact ⟨0, Nat.succ_pos _, .inr ⟨tok2, rfl, ⟨_, _, _, _, _, _, rfl, F8, N8, hl8, hli7, ms7, mf7, mt7⟩, hg7.symm⟩⟩
        · rintro c2 r2 rfl h8 tk8 t8 nl8 line8 F8 N8 hl8 hli8
          have hn2' : tok2.length + (r2.length + 1) < 1000 := hn2
          try dsimp only
          refine wpAny_pure ?_
          refine byG fun G9 k9 => ?_; rcases hl8.v with ⟨n28, a1, a2, a3, a4, a5, a6, mp8, mx8, md8⟩; all_goals (refine k9 ?_; clear k9 G9)
          replace N8 := news_dup (news_dup N8 (List.mem_append_right _ md8)) (.tail _ (List.mem_append_right _ mx8))
          clear mp8 mx8 md8
          walk_at "mine go"
          · rename (mkS _ == _) = true => hd2
            rename (List.isEmpty _) = true => hd0
            have hd1 : isWs c2 = false := by rw [ws_occ] at hd0; simpa using hd0
            have hd3 : c2 = 92 := by have := one_eq.mp hd2; injection this
            rw [inP_cons, hd1, if_neg (by decide), if_pos hd3] at hg7
            rename Fr _ _ _ _ => F10
            rename News _ _ _ _ => N10
            refine rc_spec (R := ⟨cell, sg, std, st, cr, fn, lxd, lx, pb⟩) F10.keep Xg Tg (show dp + 1 + 1 < _ from hroom) hl8 (fun p hp => ⟨(N10 p (.tail _ (.tail _ (.tail _ (.tail _ hp))))).1, (N10 p (.tail _ (.tail _ (.tail _ (.tail _ hp))))).2.2⟩) (by exact ar18 hn2') fun h11 tk11 t11 nl11 k11 hl11 hn11 => ?_
            obtain ⟨F11, N11⟩ := lex_on (own := [(it, _), (q, _)]) F10 (fun p hp => N10 p (.tail _ (.tail _ hp))) hl8 hl11 (fun p hp => by
                        cases hp with
                        | head => exact hiR
                        | tail _ hp => cases hp with
                          | head => exact hqR
                          | tail _ hp => cases hp) k11 hn11
            walk_at "mine go"
            try dsimp only
            rename Fr _ _ _ _ => F12
            rename News _ _ _ _ => N12
            exact ⟨r2.tail.length, by simp only [List.length_tail, List.length_cons]; exact ar19, r2.tail, tok2 ++ r2.take 1, t02, rfl, by simp only [List.length_append, List.length_take, List.length_tail]; exact ar20 hn2', ⟨_, _, _, _, _, _, rfl, F12, N12, hl11, (nextLine_nlc r2 line8).trans (hli8.trans hli7), ms7, mf7, by rw [← mkS_app]; rfl⟩, hg7⟩
          · try dsimp only
            rename (mkS _ == _) = false => hd2
            rename (List.isEmpty _) = true => hd0
            have hd1 : isWs c2 = false := by rw [ws_occ] at hd0; simpa using hd0
            have hd3 : c2 ≠ 92 := fun q => by rw [q] at hd2; exact Bool.noConfusion ((one_eq.mpr rfl).symm.trans hd2)
            rw [inP_cons, hd1, if_neg (by decide), if_neg hd3] at hg7
            rename Fr _ _ _ _ => F12
            rename News _ _ _ _ => N12
            exact ⟨r2.length, Nat.lt_succ_self _, r2, tok2 ++ [c2], t02, rfl, by simp only [List.length_append, List.length_cons, List.length_nil]; exact ar21 hn2', ⟨_, _, _, _, _, _, rfl, F12, fun p hp => N12 p (.tail _ (.tail _ hp)), hl8, hli8.trans hli7, ms7, mf7, by rw [← mkS_app]; rfl⟩, hg7⟩
          · try dsimp only
            rename (List.isEmpty _) = false => hd0
            have hd1 : isWs c2 = true := by rw [ws_occ] at hd0; simpa using hd0
            rw [inP_cons, if_pos hd1] at hg7
            rename Fr _ _ _ _ => F10
            rename News _ _ _ _ => N10
            rw [← hg7] at fin
            exact fin _ _ _ _ _ F10.keep (fun p hp => N10 p (.tail _ (.tail _ (.tail _ (.tail _ hp))))) hl8 (hli8.trans hli7)
      · rename (List.isEmpty _) = false => hw
        have hw' : isWs c = true := by rw [ws_occ] at hw; simpa using hw
        rw [if_pos hw'] at hg
        try dsimp only
        rename Fr _ _ _ _ => F12
        rename News _ _ _ _ => N12
        exact ⟨r.length, Nat.lt_succ_self _, .inl ⟨r, t0, rfl, by exact (Nat.lt_trans (Nat.lt_add_of_pos_right (by decide)) hn1'), ⟨_, _, _, _, _, _, rfl, F12, fun p hp => N12 p (.tail _ (.tail _ hp)), hl6, hli6.trans hli, ms, mf, mt⟩, hg⟩⟩
  · refine lex_ended F5 N5 hl5 hiR fun h6 F6 N6 => ?_
    rw [hg] at fin
    try dsimp only
    walk_at "mine go"
    try dsimp only
    exact fin _ _ _ _ _ F6.keep N6 hl5 hli
end
-- C8
section
variable {w : World} {pp : Program} {loose : List Str} {mg mb : Str → Option Value} {h₀ : Heap} {dp un : Nat} {fr : Option (List Env)} {gd : Option (List Code)} {s : Shared} {P : Result → Shared → Prop} {Q : Value → Shared → Prop}

set_option maxHeartbeats 1000000 in
theorem tokpush_spec {R : LexRef} {cs : List Nat} {line : Int} {news : List (Addr × Obj)} {p : Str} {ps : List Str}
    (k₀ : h₀.StaysIn s.heap) (X : (hd.heap_39 w.params).In h₀) (T : TopRead pp loose mg mb h₀) (hroom : dp < recursionLimit)
    (hL : LexAt w R cs line (p :: ps) news) (hm : ∀ q ∈ news, s.heap.get? q.1 = some q.2 ∧ h₀.get? q.1 = none) (hn : ps.length < 1000)
    (h : ∀ h' tk t news', But R.addrs s.heap h' → LexAt w R cs line ps news' → (∀ q ∈ news', h'.get? q.1 = some q.2) → Q (.str p t) { s with heap := h', toks := tk }) :
    wpAny (model PR w) (AA dp un fr gd) (call (.ref 90) [.ref R.lx]) Q NoE s := by
  refine byG fun G9 k9 => ?_; rcases R with ⟨cell, sg, std, st, cr, fn, lxd, lx, pb⟩; all_goals (refine k9 ?_; clear k9 G9)
  refine byG fun G9 k9 => ?_; rcases hL with ⟨vs, us, n1, n2, t1, t2, t3, t4, t5, t6, u1, u2, u3, u4, u5, u6, u7, tq, pm, ctv, pb0, oc, co, fs, hord, hv, hu, hod, hof, hco, rfl⟩; all_goals (refine k9 ?_; clear k9 G9)
  cases hu with
  | @cons _ tp us _ hu =>
  refine' enterM (binds := [(Str.ofString "self", .ref lx)]) _ k₀ X T hm ?ho ?hcd ?hroom ?hb ?hloc ?_ ?c2 ?c3 ?c4 ?c5
  case ho => k_is
  case hcd => k_is
  case hroom => exact hroom
  case hb => exact BindsTo.of_eq rfl
  case hloc => exact locs rfl
  case c2 => rfl
  case c3 => rfl
  case c4 => rfl
  case c5 => decide
  intro g L h₁ kg bg og F N Xg Tg
  have fin : ∀ h' tk t news', g.StaysIn h' → News g L h' news' → LexAt w ⟨cell, sg, std, st, cr, fn, lxd, lx, pb⟩ cs line ps news' → Q (.str p t) { s with heap := h', toks := tk } :=
    fun h' tk t news' k N hl => h h' tk t news' (fun b o q e => k b o (bg b o q e)) hl fun q hq => (N q hq).1
  have hul := hu.length
  clear hm k₀ X T kg og h bg
  refine byG fun G9 k9 => ?_; rcases id hord with ⟨o1, o2, o3, o4, o5, o6, o7, o8, o9⟩; all_goals (refine k9 ?_; clear k9 G9)
  dsimp only at N o1 o2 o3 o4 o5 o6 o7 o8 o9 hco
  show wpAny _ _ _ _ _ _
  k_fold
  walk_at "mine go"
  rename Fr _ _ _ _ => F3
  rename News _ _ _ _ => N3
  refine' kl_popAt (its := (Value.str p tp :: us).toArray) F3 N3 (k := 0) (p := []) (q := us) (y := .str p tp) (by decide) ?s rfl ?U ?_ fun h4 F4 N4 => ?_
  case U => k_upd
  case s => simp [seqIndex?]
  · show us.length + 1 ≤ _
    rw [sizeLine_eq]; exact (Nat.le_trans (Nat.add_le_add (Nat.le_trans (Nat.le_of_eq hul) (Nat.le_of_lt_succ hn)) (Nat.le_refl 1)) (by decide))
  walk_at "mine go"
  exact fin _ _ _ _ F4.keep N4 ⟨vs, us, n1, _, t1, t2, t3, t4, t5, t6, u1, u2, u3, u4, u5, u6, u7, tq, pm, ctv, pb0, oc, co, fs, hord, hv, hu, hod, hof, hco, rfl⟩

/-- the words that get_token gives till it gives '' -/
inductive Lexes : List Nat → List (List Nat) → List Nat → Prop
  | nil {cs : List Nat} : (getTok cs).1 = [] → Lexes cs [] (getTok cs).2
  | cons {cs rest : List Nat} {ws : List (List Nat)} : (getTok cs).1 ≠ [] → Lexes (getTok cs).2 ws rest → Lexes cs ((getTok cs).1 :: ws) rest

theorem inQ_len : ∀ (n : Nat) (cs t : List Nat), cs.length ≤ n → (inQ cs t).2.length ≤ cs.length
  | _, [], _, _ => Nat.le_refl _
  | 0, _ :: _, _, h => absurd h (Nat.not_succ_le_zero _)
  | n + 1, c :: r, t, h => by
    have h' : r.length ≤ n := Nat.le_of_succ_le_succ h
    rw [inQ_cons]
    split
    · exact Nat.le_succ _
    · split
      · have := inQ_len n r.tail (t ++ r.take 1) (by rw [List.length_tail]; exact ar24 h')
        rw [List.length_tail] at this
        rw [List.length_cons]; exact ar25 this
      · have := inQ_len n r (t ++ [c]) h'
        rw [List.length_cons]; exact (Nat.le_of_lt (Nat.lt_of_le_of_lt this (Nat.lt_add_of_pos_right (by decide))))
theorem inP_len : ∀ (n : Nat) (cs t : List Nat), cs.length ≤ n → (inP cs t).2.length ≤ cs.length
  | _, [], _, _ => Nat.le_refl _
  | 0, _ :: _, _, h => absurd h (Nat.not_succ_le_zero _)
  | n + 1, c :: r, t, h => by
    have h' : r.length ≤ n := Nat.le_of_succ_le_succ h
    rw [inP_cons]
    split
    · exact Nat.le_succ _
    · split
      · have := inP_len n r.tail (t ++ r.take 1) (by rw [List.length_tail]; exact ar24 h')
        rw [List.length_tail] at this
        rw [List.length_cons]; exact ar25 this
      · have := inP_len n r (t ++ [c]) h'
        rw [List.length_cons]; exact (Nat.le_of_lt (Nat.lt_of_le_of_lt this (Nat.lt_add_of_pos_right (by decide))))
theorem getTok_len : ∀ cs : List Nat, (getTok cs).2.length ≤ cs.length
  | [] => Nat.le_refl _
  | c :: r => by
    rw [getTok_cons, List.length_cons]
    split
    · exact Nat.le_succ_of_le (getTok_len r)
    · split
      · exact Nat.le_succ_of_le (inQ_len _ r [] (Nat.le_refl _))
      · split
        · have := inP_len _ r.tail (r.take 1) (Nat.le_refl _)
          rw [List.length_tail] at this
          exact ar25 this
        · exact Nat.le_succ_of_le (inP_len _ r [c] (Nat.le_refl _))

inductive WordsI (w : World) (R : LexRef) (s : Shared) (g : Heap) (L W lx : Addr) (tot : Int) (ws : List (List Nat)) (rest : List Nat) (n : Nat) (s' : Shared) : Prop
  | mk (cs1 : List Nat) (done todo : List (List Nat)) (h : Heap) (tk : Nat) (m : Str → Option Value) (nl : List (Addr × Obj)) (line1 : Int) (vs1 : List Value) (k1 : Nat) (t1 : Tok) (hn : n = todo.length) (e : s' = { s with heap := h, toks := tk }) (F : Fr g L h m) (N : News g L h ((W, listOf vs1.toArray k1) :: nl))
    (hl : LexAt w R (getTok cs1).2 line1 [] nl) (hi : line1 + nlc (getTok cs1).2 = tot) (hx : Lexes cs1 todo rest) (hd : done ++ todo = ws) (hv : StrsAre vs1 (done.map mkS)) (h1 : cs1.length < 1000) (ml : m (Str.ofString "lexer") = some (.ref lx)) (mw : m (Str.ofString "words") = some (.ref W))
    (mt : m (Str.ofString "word") = some (.str (mkS (getTok cs1).1) t1))
set_option maxHeartbeats 1000000 in
theorem words_spec {R : LexRef} {cs rest : List Nat} {ws : List (List Nat)} {line : Int} {news : List (Addr × Obj)}
    (k₀ : h₀.StaysIn s.heap) (X : (hd.heap_39 w.params).In h₀) (T : TopRead pp loose mg mb h₀) (hroom : dp + 3 < recursionLimit)
    (hL : LexAt w R cs line [] news) (hm : ∀ q ∈ news, s.heap.get? q.1 = some q.2 ∧ h₀.get? q.1 = none) (hx : Lexes cs ws rest) (hn : cs.length < 1000) (hw : ws.length < 1000)
    (h : ∀ h' tk a vs n news' line', But R.addrs s.heap h' → LexAt w R rest line' [] news' → line' + nlc rest = line + nlc cs → (∀ q ∈ news', h'.get? q.1 = some q.2) →
      s.heap.get? a = none → h'.get? a = some (listOf vs.toArray n) → StrsAre vs (ws.map mkS) → Q (.ref a) { s with heap := h', toks := tk }) :
    wpAny (model PR w) (AA dp un fr gd) (call (.ref 118) [.ref R.lx]) Q NoE s := by
  have hL' := hL
  refine byG fun G9 k9 => ?_; rcases R with ⟨cell, sg, std, st, cr, fn, lxd, lx, pb⟩; all_goals (refine k9 ?_; clear k9 G9)
  refine byG fun G9 k9 => ?_; rcases hL with ⟨vs, us, n1, n2, t1, t2, t3, t4, t5, t6, u1, u2, u3, u4, u5, u6, u7, tq, pm, ctv, pb0, oc, co, fs, hord, hv, hu, hod, hof, hco, hnl⟩; all_goals (refine k9 ?_; clear k9 G9)
  subst hnl
  refine' enterM (binds := [(Str.ofString "lexer", .ref lx)]) _ k₀ X T hm ?ho ?hcd ?hroom ?hb ?hloc ?_ ?c2 ?c3 ?c4 ?c5
  case ho => k_is
  case hcd => k_is
  case hroom => show dp < recursionLimit; exact (Nat.lt_trans (Nat.lt_add_of_pos_right (by decide)) hroom)
  case hb => exact BindsTo.of_eq rfl
  case hloc => exact locs rfl
  case c2 => rfl
  case c3 => rfl
  case c4 => rfl
  case c5 => decide
  intro g L h₁ kg bg og F N Xg Tg
  have fin : ∀ h' tk a vs n news' line', g.StaysIn h' → News g L h' ((a, listOf vs.toArray n) :: news') → LexAt w ⟨cell, sg, std, st, cr, fn, lxd, lx, pb⟩ rest line' [] news' → line' + nlc rest = line + nlc cs →
      StrsAre vs (ws.map mkS) → @LT.lt Nat _ pb a → Q (.ref a) { s with heap := h', toks := tk } := by
    intro h' tk a vs n news' line' k N hl hli hv hlt
    refine h h' tk a vs n news' line' (fun b o q e => k b o (bg b o q e)) hl hli (fun q hq => (N q (.tail _ hq)).1) ?_ (N (a, _) (.head _)).1 hv
    cases e : s.heap.get? a with
    | none => rfl
    | some o =>
      have ha : a ∉ LexRef.addrs ⟨cell, sg, std, st, cr, fn, lxd, lx, pb⟩ := by
        refine byG fun G9 k9 => ?_; rcases hord with ⟨o1, o2, o3, o4, o5, o6, o7, o8, o9⟩; all_goals (refine k9 ?_; clear k9 G9)
        dsimp only at o1 o2 o3 o4 o5 o6 o7 o8 o9
        simp only [LexRef.addrs, List.mem_cons, List.not_mem_nil, or_false, not_or]
        refine ⟨?_, ?_, ?_, ?_, ?_, ?_, ?_, ?_, ?_⟩ <;> (refine neN ?_; (first | exact Nat.ne_of_gt hlt | exact Nat.ne_of_gt (Nat.lt_trans o7 hlt) | exact Nat.ne_of_gt (Nat.lt_trans (Nat.lt_trans o6 o7) hlt) | exact Nat.ne_of_gt (Nat.lt_trans (Nat.lt_trans (Nat.lt_trans o5 o6) o7) hlt) | exact Nat.ne_of_gt (Nat.lt_trans (Nat.lt_trans (Nat.lt_trans (Nat.lt_trans o8 o5) o6) o7) hlt) | exact Nat.ne_of_gt (Nat.lt_trans (Nat.lt_trans (Nat.lt_trans (Nat.lt_trans o4 o5) o6) o7) hlt) | exact Nat.ne_of_gt (Nat.lt_trans (Nat.lt_trans (Nat.lt_trans (Nat.lt_trans (Nat.lt_trans o3 o4) o5) o6) o7) hlt) | exact Nat.ne_of_gt (Nat.lt_trans (Nat.lt_trans (Nat.lt_trans (Nat.lt_trans (Nat.lt_trans (Nat.lt_trans o2 o3) o4) o5) o6) o7) hlt) | exact ar26 hlt o1 o2 o3 o4 o5 o6 o7))
      have := bg a o ha e
      rw [(N (a, _) (.head _)).2.2] at this; cases this
  clear hm k₀ X T kg og h bg
  show wpAny _ _ _ _ _ _
  k_fold
  walk_at "mine go"
  rename Fr _ _ _ _ => F1
  rename News _ _ _ _ => N1
  rename_i W _ _ _
  have ho := hord
  refine byG fun G9 k9 => ?_; rcases ho with ⟨o1, o2, o3, o4, o5, o6, o7, o8, o9⟩; all_goals (refine k9 ?_; clear k9 G9)
  dsimp only at o1 o2 o3 o4 o5 o6 o7 o8 o9
  have hW : @LT.lt Nat _ pb W := by omega
  have hd : ∀ o : Obj, ∀ p ∈ [(W, o)], p.1 ∉ LexRef.addrs ⟨cell, sg, std, st, cr, fn, lxd, lx, pb⟩ := fun o p hp => by
    obtain rfl := List.mem_singleton.mp hp
    simp only [LexRef.addrs, List.mem_cons, List.not_mem_nil, or_false, not_or]
    refine ⟨?_, ?_, ?_, ?_, ?_, ?_, ?_, ?_, ?_⟩ <;> (refine neN ?_; omega)
  refine tok_spec (R := ⟨cell, sg, std, st, cr, fn, lxd, lx, pb⟩) F1.keep Xg Tg (show dp + 1 + 2 < _ from hroom) hL' (fun p hp => ⟨(N1 p (.tail _ hp)).1, (N1 p (.tail _ hp)).2.2⟩) hn fun h2 tk2 t2' nl2 line2 k2 hl2 hli2 hn2 => ?_
  obtain ⟨F2, N2⟩ := lex_on (own := [(W, _)]) F1 N1 hL' hl2 (hd _) k2 hn2
  dsimp only [List.cons_append, List.nil_append] at N2
  clear N1 hv hu hod hof hco
  walk_at "mine go"
  rename Fr _ _ _ _ => F3
  rename News _ _ _ _ => N3
  refine while_own (WordsI w ⟨cell, sg, std, st, cr, fn, lxd, lx, pb⟩ s g L W lx (line + nlc cs) ws rest) ws.length ⟨cs, [], ws, _, _, _, _, _, [], _, _, rfl, rfl, F3, N3, hl2, hli2, hx, rfl, .nil, hn, rfl, rfl, rfl⟩ ?_
  intro n s' hI
  refine byG fun G9 k9 => ?_; rcases hI with ⟨cs1, done, todo, h4, tk4, m4, nl4, line4, vs4, k4, t4, rfl, rfl, F4, N4, hl4, hli4, hx4, hdt, hv4, hn4, ml, mw, mt⟩; all_goals (refine k9 ?_; clear k9 G9)
  have hvl := hv4.length
  rw [List.length_map] at hvl
  have hdl : done.length + todo.length < 1000 := by rw [← List.length_append, hdt]; exact hw
  clear F3 N3 hl2 hli2 k2 hn2
  refine byG fun G9 k9 => ?_; rcases id hl4 with ⟨vs6, us6, n16, n26, a1, a2, a3, a4, a5, a6, b1, b2, b3, b4, b5, b6, b7, tq6, pm6, ctv6, pb06, oc6, co6, fs6, hord6, hv6, hu6, hod6, hof6, hco6, hnl6⟩; all_goals (refine k9 ?_; clear k9 G9)
  subst hnl6
  dsimp only at N4
  walk_at "mine go"
  · rename (mkS _ != _) = true => ht
    have hne : (getTok cs1).1 ≠ [] := fun e => by rw [e] at ht; exact absurd ht (by decide)
    rename Fr _ _ _ _ => F5
    rename News _ _ _ _ => N5
    simp only [List.push_toArray] at N5
    cases hx4 with
    | nil e => exact absurd e hne
    | @cons _ _ ws5 _ hx5 =>
      have hlen := getTok_len cs1
      refine tok_spec (R := ⟨cell, sg, std, st, cr, fn, lxd, lx, pb⟩) F5.keep Xg Tg (show dp + 1 + 2 < _ from hroom) hl4 (fun p hp => ⟨(N5 p (.tail _ hp)).1, (N5 p (.tail _ hp)).2.2⟩) (by exact (Nat.lt_of_le_of_lt hlen hn4)) fun h7 tk7 t7 nl7 line7 k7 hl7 hli7 hn7 => ?_
      obtain ⟨F7, N7⟩ := lex_on (own := [(W, _)]) F5 N5 hl4 hl7 (hd _) k7 hn7
      dsimp only [List.cons_append, List.nil_append] at N7
      walk_at "mine go"
      rename Fr _ _ _ _ => F8
      rename News _ _ _ _ => N8
      exact ⟨ws5.length, Nat.lt_succ_self _, (getTok cs1).2, done ++ [(getTok cs1).1], ws5, _, _, _, _, _, _, _, _, rfl, rfl, F8, N8, hl7, hli7.trans hli4, hx5, by rw [List.append_assoc]; exact hdt, by rw [List.map_append]; exact strs_snoc hv4, by exact (Nat.lt_of_le_of_lt hlen hn4), ml, mw, rfl⟩
  · rename (mkS _ != _) = false => ht
    have hne : (getTok cs1).1 = [] := by
      have e : (mkS (getTok cs1).1 == Str.ofString "") = true := by simpa [bne] using ht
      have e2 : mkS (getTok cs1).1 = mkS [] := beq_iff_eq.mp e
      injection e2 with e3
      injection e3
    rename Fr _ _ _ _ => F5
    rename News _ _ _ _ => N5
    cases hx4 with
    | cons e _ => exact absurd hne e
    | nil _ =>
      rw [List.append_nil] at hdt
      try dsimp only
      exact fin _ _ _ _ _ _ _ F5.keep N5 hl4 hli4 (hdt ▸ hv4) hW
end
-- D1
noncomputable def boxC (p : Nat) : List Nat := 41 :: [[], [92, 40], [], [92, 92], [], [], [34, 40, 92, 92, 34], []].getD (p % 8) []
section
variable {w : World} {pp : Program} {loose : List Str} {mg mb : Str → Option Value} {h₀ : Heap} {dp un : Nat} {fr : Option (List Env)} {gd : Option (List Code)} {s : Shared} {P : Result → Shared → Prop} {Q : Value → Shared → Prop}

set_option maxHeartbeats 1000000 in
theorem box_spec {p : Nat} {tp : Tok}
    (k₀ : h₀.StaysIn s.heap) (X : (hd.heap_39 w.params).In h₀) (T : TopRead pp loose mg mb h₀) (hroom : dp < recursionLimit)
    (h : ∀ h' tk t, s.heap.StaysIn h' → Q (.str (mkS (boxC p)) t) { s with heap := h', toks := tk }) :
    wpAny (model PR w) (AA dp un fr gd) (call (.ref 125) [.int p tp]) Q NoE s := by
  refine' enterM (binds := [(Str.ofString "place", .int p tp)]) [] k₀ X T (fun _ q => nomatch q) ?ho ?hcd ?hroom ?hb ?hloc ?_ ?c2 ?c3 ?c4 ?c5
  case ho => k_is
  case hcd => k_is
  case hroom => exact hroom
  case hb => exact BindsTo.of_eq rfl
  case hloc => exact locs rfl
  case c2 => rfl
  case c3 => rfl
  case c4 => rfl
  case c5 => decide
  intro g L h₁ kg bg og F N Xg Tg
  have fin : ∀ h' tk t, g.StaysIn h' → Q (.str (mkS (boxC p)) t) { s with heap := h', toks := tk } := fun h' tk t k => h h' tk t fun b o e => k b o (bg.nil b o e)
  have fin' : ∀ j : Nat, p % 8 = j → ∀ h' tk t, g.StaysIn h' → Q (.str (mkS (41 :: [[], [92, 40], [], [92, 92], [], [], [34, 40, 92, 92, 34], []].getD j [])) t) { s with heap := h', toks := tk } := fun j hj => by
    subst hj; exact fin
  clear k₀ X T kg og h bg fin
  show wpAny _ _ _ _ _ _
  k_fold
  walk_at "mine go"
  all_goals
    rename Int.fmod _ _ = _ => hE
    rename Fr _ _ _ _ => F2
    rw [Int.fmod_eq_emod_of_nonneg _ (by decide)] at hE
  · exact fin' 0 (by exact ar27 hE) _ _ _ F2.keep
  · exact fin' 1 (by exact ar28 hE) _ _ _ F2.keep
  · exact fin' 2 (by exact ar29 hE) _ _ _ F2.keep
  · exact fin' 3 (by exact ar30 hE) _ _ _ F2.keep
  · exact fin' 4 (by exact ar31 hE) _ _ _ F2.keep
  · exact fin' 5 (by exact ar32 hE) _ _ _ F2.keep
  · exact fin' 6 (by exact ar33 hE) _ _ _ F2.keep
  · exact fin' 7 (by exact ar34 hE) _ _ _ F2.keep
end
-- L1
/-- all that is in the heap beside the frozen part, the frame and the ledger -/
noncomputable def others (g : Heap) (L : Addr) (news : List (Addr × Obj)) (h : Heap) : List (Addr × Obj) :=
  (List.range h.objs.size).filterMap fun b => if b = L ∨ (g.get? b).isSome ∨ b ∈ news.map (·.1) then none else (h.get? b).map fun o => (b, o)
theorem mem_others {g : Heap} {L : Addr} {news : List (Addr × Obj)} {h : Heap} {q : Addr × Obj} : q ∈ others g L news h ↔ h.get? q.1 = some q.2 ∧ q.1 ≠ L ∧ g.get? q.1 = none ∧ q.1 ∉ news.map (·.1) := by
  unfold others
  rw [List.mem_filterMap]
  constructor
  · rintro ⟨b, _, e⟩
    split at e
    · cases e
    · rename_i hn
      obtain ⟨o, ho, rfl⟩ := Option.map_eq_some_iff.mp e
      refine ⟨ho, fun q => hn (.inl q), ?_, fun q => hn (.inr (.inr q))⟩
      cases q : g.get? b with
      | none => rfl
      | some o => exact absurd (.inr (.inl (by rw [q]; rfl))) hn
  · rintro ⟨h1, h2, h3, h4⟩
    refine ⟨q.1, List.mem_range.mpr (Heap.lt_size h1), ?_⟩
    rw [if_neg]
    · rw [h1]; rfl
    · rintro (e | e | e)
      · exact h2 e
      · rw [h3] at e; cases e
      · exact h4 e
theorem news_others {g h : Heap} {L : Addr} {news : List (Addr × Obj)} (N : News g L h news) : News g L h (news ++ others g L news h) := fun q hq => by
  rcases List.mem_append.mp hq with hq | hq
  · exact N q hq
  · obtain ⟨a, b, c, _⟩ := mem_others.mp hq
    exact ⟨a, b, c⟩
theorem keep_others {g h h' : Heap} {L : Addr} {m m' : Str → Option Value} {news news' : List (Addr × Obj)} (F : Fr g L h m) (F' : Fr g L h' m') (N' : News g L h' (news' ++ others g L news h)) {fp : List Addr} (hL : L ∉ fp) (hn : ∀ q ∈ news, q.1 ∉ fp) :
    ∀ b ∈ fp, ∀ o, h.get? b = some o → h'.get? b = some o := fun b hb o e => by
  cases q : g.get? b with
  | some o' => have := F.keep b o' q; rw [e] at this; cases this; exact F'.keep b o q
  | none => exact (N' (b, o) (List.mem_append_right _ (mem_others.mpr ⟨e, fun x => hL (x ▸ hb), q, fun x => by
      obtain ⟨p, hp, e2⟩ := List.mem_map.mp x
      exact hn p hp (e2 ▸ hb)⟩))).1

section
variable {prog : Program} {w : World} {A : Around} {s : Shared} {g : Heap} {L : Addr} {m : Str → Option Value} {news : List (Addr × Obj)} {I : Addr} {fp wr : List Addr} {n : Nat} {St : Nat → Heap → Prop} {Q : Flow → Shared → Prop} {R : Result → Shared → Prop} {env : Env} {body : List Stmt}

/-- what the store of a name does to frame and ledger -/
def Stores (prog : Program) (w : World) (A : Around) (g : Heap) (L : Addr) (env : Env) (x : Str) (px : Pos) : Prop :=
  ∀ (s : Shared) (m : Str → Option Value) (news : List (Addr × Obj)) (v : Value) (Q : Unit → Shared → Prop), Fr g L s.heap m → News g L s.heap news →
    (∀ h' tk, Fr g L h' (fun y => if y = x then some v else m y) → News g L h' news → Q () { s with heap := h', toks := tk }) → wpAny (model prog w) A (assign (.Name x px) env v) Q NoE s
theorem stores_local {cn x : Str} {px : Pos} {cs : Scope} {a : Addr} {cd : Value} {cells : List (Str × Addr)} (hk : cs.kind = .function := by rfl) (hl : (envX cn cs L a cd cells).kindOf x = some .local := by rfl) : Stores prog w A g L (envX cn cs L a cd cells) x px := fun s m news v Q F N h =>
  assign_Name (wpAny_storeName_local hl F.ns (fun h' hn hs => h h' _ (F.set hn hs) (N.set hs)) (by show (cs.kind == .class || (cs.kind == .module && L != mainGlobals)) = false; rw [hk]; rfl))

/-- for x in an iterator: any invariant of names and ledger -/
theorem for_walk {x : Str} {px : Pos} {P : Nat → Value → Prop} (Wk : Walks prog w A I fp wr n P St) (J : Nat → (Str → Option Value) → List (Addr × Obj) → Prop)
    (F : Fr g L s.heap m) (N : News g L s.heap news) (hst : St 0 s.heap) (hfL : L ∉ fp) (hfn : ∀ q ∈ news, q.1 ∉ fp) (hwg : ∀ b ∈ wr, g.get? b = none) (hJ : J 0 m news) (hx : Stores prog w A g L env x px) (hR : ∀ f s', Q f s' → R (.ok f) s')
    (turn : ∀ i v m₁ news₁ ot h₁ tk₁ gs₁, i < n → P i v → J i m₁ news₁ → (AllBare s.gens → AllBare gs₁) → Fr g L h₁ (fun y => if y = x then some v else m₁ y) → News g L h₁ (news₁ ++ ot) → (∀ q ∈ news₁, ∀ r ∈ ot, r.1 ≠ q.1) →
      ∀ Jp : Shared → Prop, LpK (TurnA g L s.gens s.drawn s.os ot news₁ (J (i + 1))) Jp → wpAny (model prog w) A (execs body env) (BodyK Jp Q) NoE ⟨h₁, gs₁, s.drawn, tk₁, s.os⟩)
    (done : ∀ m₁ news₁ h₁ tk₁ gs₁, J n m₁ news₁ → (AllBare s.gens → AllBare gs₁) → Fr g L h₁ m₁ → News g L h₁ news₁ → Q .next ⟨h₁, gs₁, s.drawn, tk₁, s.os⟩) :
    codeAny (model prog w) A (.forLoop (.Name x px) (.ref I) body [] env) R s := by
  refine for_own (Q := Q) (fun k s' => ∃ i m news h tk gs, k + i = n ∧ s' = ⟨h, gs, s.drawn, tk, s.os⟩ ∧ (AllBare s.gens → AllBare gs) ∧ Fr g L h m ∧ News g L h news ∧ (∀ q ∈ news, q.1 ∉ fp) ∧ St i h ∧ J i m news)
    n ⟨0, m, news, s.heap, s.toks, s.gens, rfl, rfl, id, F, N, hfn, hst, hJ⟩ hR ?_
  rintro k s' ⟨i, m₁, news₁, h₁, tk₁, gs₁, hk, rfl, hb, F₁, N₁, hn₁, st₁, J₁⟩ Jp kJ
  have still : ∀ h', (∀ b o, b ∉ wr → h₁.get? b = some o → h'.get? b = some o) → Fr g L h' m₁ ∧ News g L h' news₁ := fun h' hk => by
    refine byG fun G9 k9 => ?_; rcases F₁.ns with ⟨oL, es, ep, hLL, r⟩; all_goals (refine k9 ?_; clear k9 G9)
    exact ⟨⟨⟨oL, es, ep, hk _ _ (fun q => hfL (Wk.sub _ q)) hLL, r⟩, fun b o e => hk b o (fun q => by rw [hwg b q] at e; cases e) (F₁.keep b o e), F₁.above⟩,
      fun q hq => ⟨hk _ _ (fun z => hn₁ q hq (Wk.sub _ z)) (N₁ q hq).1, (N₁ q hq).2⟩⟩
  cases k with
  | zero =>
    obtain rfl : i = n := by exact ar109 hk
    refine Wk.done _ _ _ st₁ fun h' tk' hk' => ?_
    obtain ⟨F₂, N₂⟩ := still h' hk'
    exact done _ _ _ _ _ J₁ hb F₂ N₂
  | succ k =>
    refine Wk.item i _ _ _ (by exact ar110 hk) st₁ fun v hw tk' hP st₂ hk' => ?_
    obtain ⟨F₂, N₂⟩ := still hw hk'
    refine wpAny_pure ?_
    refine hx _ _ _ v _ F₂ (news_others N₂) fun h₃ tk₃ F₃ N₃ => ?_
    have st₃ : St (i + 1) h₃ := Wk.frame _ _ _ st₂ (keep_others F₂ F₃ N₃ hfL hn₁)
    refine turn i v m₁ news₁ _ h₃ tk₃ gs₁ (by exact ar110 hk) hP J₁ hb F₃ N₃ (fun q hq r hr e => (mem_others.mp hr).2.2.2 (e ▸ List.mem_map_of_mem hq)) Jp ⟨fun s₃ => ?_⟩
    rintro ⟨h₄, tk₄, gs₄, m₄, news₄, e, hb₄, F₄, N₄, hm, J₄⟩
    refine kJ.h _ ⟨k, Nat.lt_succ_self _, i + 1, m₄, news₄, h₄, tk₄, gs₄, by exact ar111 hk, e, hb₄, F₄, fun q hq => N₄ q (List.mem_append_left _ hq), fun q hq => ?_, Wk.frame _ _ _ st₂ (keep_others F₂ F₄ N₄ hfL hn₁), J₄⟩
    have : q.1 ∈ news₄.map (·.1) := List.mem_map_of_mem hq
    rw [hm] at this
    obtain ⟨r, hr, e⟩ := List.mem_map.mp this
    rw [← e]; exact hn₁ r hr

/-- for x, y in an iterator of pairs -/
theorem for_walkT {x1 x2 : Str} {p1 p2 pt : Pos} {kk : Nat} {Pt : Nat → Array Value → Prop} {Mid : Nat → Addr → Heap → Prop} (Wk : WalksT prog w A I fp wr n Pt St Mid) (J : Nat → (Str → Option Value) → List (Addr × Obj) → Prop) (hh : A.handled = none)
    (F : Fr g L s.heap m) (N : News g L s.heap news) (hst : St 0 s.heap) (hfL : L ∉ fp) (hfn : ∀ q ∈ news, q.1 ∉ fp) (hwg : ∀ b ∈ wr, g.get? b = none) (hJ : J 0 m news) (hx : Stores prog w A g L env x1 p1) (hy : Stores prog w A g L env x2 p2) (hR : ∀ f s', Q f s' → R (.ok f) s')
    (hp : ∀ i vals, Pt i vals → ∃ a b, vals = #[a, b])
    (turn : ∀ i a b m₁ news₁ ot h₁ tk₁ gs₁, i < n → Pt i #[a, b] → J i m₁ news₁ → (AllBare s.gens → AllBare gs₁) → Fr g L h₁ (fun y => if y = x2 then some b else if y = x1 then some a else m₁ y) → News g L h₁ (news₁ ++ ot) → (∀ q ∈ news₁, ∀ r ∈ ot, r.1 ≠ q.1) →
      ∀ Jp : Shared → Prop, LpK (TurnA g L s.gens s.drawn s.os ot news₁ (J (i + 1))) Jp → wpAny (model prog w) A (execs body env) (BodyK Jp Q) NoE ⟨h₁, gs₁, s.drawn, tk₁, s.os⟩)
    (done : ∀ m₁ news₁ h₁ tk₁ gs₁, J n m₁ news₁ → (AllBare s.gens → AllBare gs₁) → Fr g L h₁ m₁ → News g L h₁ news₁ → Q .next ⟨h₁, gs₁, s.drawn, tk₁, s.os⟩) :
    codeAny (model prog w) A (.forLoop (.Tuple [.Name x1 p1, .Name x2 p2] kk pt) (.ref I) body [] env) R s := by
  refine for_own (Q := Q) (fun k s' => ∃ i m news h tk gs, k + i = n ∧ s' = ⟨h, gs, s.drawn, tk, s.os⟩ ∧ (AllBare s.gens → AllBare gs) ∧ Fr g L h m ∧ News g L h news ∧ (∀ q ∈ news, q.1 ∉ fp) ∧ St i h ∧ J i m news)
    n ⟨0, m, news, s.heap, s.toks, s.gens, rfl, rfl, id, F, N, hfn, hst, hJ⟩ hR ?_
  rintro k s' ⟨i, m₁, news₁, h₁, tk₁, gs₁, hk, rfl, hb, F₁, N₁, hn₁, st₁, J₁⟩ Jp kJ
  have still : ∀ {h₁ h' : Heap}, Fr g L h₁ m₁ → News g L h₁ news₁ → (∀ b o, b ∉ wr → h₁.get? b = some o → h'.get? b = some o) → Fr g L h' m₁ ∧ News g L h' news₁ := fun {h₁ h'} F₁ N₁ hk => by
    refine byG fun G9 k9 => ?_; rcases F₁.ns with ⟨oL, es, ep, hLL, r⟩; all_goals (refine k9 ?_; clear k9 G9)
    exact ⟨⟨⟨oL, es, ep, hk _ _ (fun q => hfL (Wk.sub _ q)) hLL, r⟩, fun b o e => hk b o (fun q => by rw [hwg b q] at e; cases e) (F₁.keep b o e), F₁.above⟩,
      fun q hq => ⟨hk _ _ (fun z => hn₁ q hq (Wk.sub _ z)) (N₁ q hq).1, (N₁ q hq).2⟩⟩
  cases k with
  | zero =>
    obtain rfl : i = n := by exact ar109 hk
    refine Wk.done _ _ _ st₁ fun h' tk' hk' => ?_
    obtain ⟨F₂, N₂⟩ := still F₁ N₁ hk'
    exact done _ _ _ _ _ J₁ hb F₂ N₂
  | succ k =>
    refine Wk.item i _ _ _ (by exact ar110 hk) st₁ fun T vals h' tk' hP hTs hT mid hk' => ?_
    obtain ⟨F₂, N₂⟩ := still F₁ N₁ hk'
    obtain ⟨a, b, rfl⟩ := hp i vals hP
    refine Wk.go _ _ _ i T _ _ _ mid fun h₂ st₂ hk₂ => ?_
    obtain ⟨F₃, N₃⟩ := still F₂ N₂ hk₂
    have hT₂ : IsTup h₂ T #[a, b] := by
      obtain ⟨o, ho, r⟩ := hT
      exact ⟨o, hk₂ _ _ (Wk.apart _ _ _ mid) ho, r⟩
    refine assign_Tuple_tuple hh hT₂ rfl rfl fun h₄ e₄ => ?_
    have F₄ := F₃.extBut e₄ (Nat.le_refl _)
    have N₄ := (news_others N₃).extBut e₄ (Nat.le_refl _)
    refine assignInOrder_cons (hx _ _ _ a _ F₄ N₄ fun h₅ tk₅ F₅ N₅ => ?_)
    refine assignInOrder_cons (hy _ _ _ b _ F₅ N₅ fun h₆ tk₆ F₆ N₆ => ?_)
    refine assignInOrder_nil ?_
    refine turn i a b m₁ news₁ _ h₆ tk₆ gs₁ (by exact ar110 hk) hP J₁ hb F₆ N₆ (fun q hq r hr e => (mem_others.mp hr).2.2.2 (e ▸ List.mem_map_of_mem hq)) Jp ⟨fun s₃ => ?_⟩
    rintro ⟨h₄, tk₄, gs₄, m₄, news₄, e, hb₄, F₄, N₄, hm, J₄⟩
    refine kJ.h _ ⟨k, Nat.lt_succ_self _, i + 1, m₄, news₄, h₄, tk₄, gs₄, by exact ar111 hk, e, hb₄, F₄, fun q hq => N₄ q (List.mem_append_left _ hq), fun q hq => ?_, Wk.frame _ _ _ st₂ (keep_others F₃ F₄ N₄ hfL hn₁), J₄⟩
    have : q.1 ∈ news₄.map (·.1) := List.mem_map_of_mem hq
    rw [hm] at this
    obtain ⟨r, hr, e⟩ := List.mem_map.mp this
    rw [← e]; exact hn₁ r hr
end
-- D2
section
variable {M : Model} {prog : Program} {w : World} {A : Around} {E : Value → Shared → Prop} {s : Shared} {K : Frag} {h₀ : Heap} {L C : Addr} {m m₂ mg mb : Str → Option Value} {news : List (Addr × Obj)} {scope : Scope} {cl : List (Str × Addr)} {env : Env} {p : Program} {loose : List Str} {x : Str} {pos : Pos} {v : Value} {oC : Obj}
  {elt ct : Expr} {S : List (Addr × Obj) → Prop} {P : Nat → Value → Prop} {Fin : List Value → List (Addr × Obj) → Prop} {n : Nat}

theorem ldc_global {Q : Value → Shared → Prop} (F : Fr h₀ L s.heap m) (X : K.In h₀) (T : TopRead p loose mg mb h₀) (e : nsIn K mainGlobals x = some (some v)) (h : Q v s) (hg : env.globals = mainGlobals := by rfl)
    (hk : (compEnvC scope cl C env).scope.kind = .function := by rfl) (hx : (compEnvC scope cl C env).kindOf x = some .globalImplicit := by rfl) (hd : (x == ("__debug__" : Str)) = false := by decide) :
    wpAny M A (eval (.Name x pos) (compEnvC scope cl C env)) Q E s :=
  Name_function_global hk hx (loadGlobal_global (env := compEnvC scope cl C env) (show s.heap.Ns env.globals mg from hg ▸ (T.keeps F.keep).g) (mg_of X T.g e) h) hd
theorem ldc_built {Q : Value → Shared → Prop} (F : Fr h₀ L s.heap m) (X : K.In h₀) (T : TopRead p loose mg mb h₀) (e : nsIn K mainGlobals x = some none) (hv : bootBuiltins x = some v) (hn : x ≠ "__name__") (h : Q v s) (hg : env.globals = mainGlobals := by rfl) (hb : env.builtins = builtinsNs := by rfl)
    (hk : (compEnvC scope cl C env).scope.kind = .function := by rfl) (hx : (compEnvC scope cl C env).kindOf x = some .globalImplicit := by rfl) (hd : (x == ("__debug__" : Str)) = false := by decide) :
    wpAny M A (eval (.Name x pos) (compEnvC scope cl C env)) Q E s :=
  Name_function_global hk hx (loadGlobal_builtin (env := compEnvC scope cl C env) (show s.heap.Ns env.globals mg from hg ▸ (T.keeps F.keep).g) (mg_none_of X T.g e) (show s.heap.Ns env.builtins mb from hb ▸ (T.keeps F.keep).b) ((T.builtins x hn).trans hv) h) hd

theorem compEnd_mono {y : Value} {s₁ s₂ : Shared} {I C D : Addr} {oI oC oD : Obj} {rest rest' : Value → List (Addr × Obj) → Prop} (h : LCg.CompEnd h₀ L m s₁ I oI C oC D oD S rest y s₂) (hr : ∀ n, rest y n → rest' y n) : LCg.CompEnd h₀ L m s₁ I oI C oC D oD S rest' y s₂ :=
  let ⟨h', tk, nw, e, F, N, o, q, r⟩ := h; ⟨h', tk, nw, e, F, N, o, q, hr _ r⟩

/-- a comprehension without a test: any invariant of what is made and of the ledger -/
theorem comp_own (J : Nat → List Value → List (Addr × Obj) → Prop)
    (turn : ∀ i ys news, i < n → J i ys news → ∀ v I oI C oC D m₂ h tk, P i v → LCg.NsObj oC m₂ → m₂ x = some v → Fr h₀ L h m → News h₀ L h ((I, oI) :: (C, oC) :: (D, LCg.lst ys) :: news) → LCg.Off3 I C D news → ((@Ne Nat I C) ∧ (@Ne Nat I D) ∧ (@Ne Nat C D)) →
      wpAny (model prog w) A (eval elt (compEnvC scope cl C env)) (LCg.CompEnd h₀ L m { s with heap := h, toks := tk } I oI C oC D (LCg.lst ys) S (fun y news' => J (i + 1) (ys ++ [y]) news')) NoE { s with heap := h, toks := tk })
    (fin : ∀ ys news, J n ys news → Fin ys news) : ∀ k i ys news, i + k = n → J i ys news → LCg.CompRest prog w A h₀ L m env elt x scope cl s S P Fin k i ys news
  | 0, i, ys, news, e, h => LCg.CompRest.zero (fin ys news (by subst e; exact h))
  | k + 1, i, ys, news, e, h => LCg.CompRest.succ fun v I oI C oC D m₂ hh tk E' hP hC hx F N off ne => by
    refine wpAny_mono (turn i ys news (by exact ar35 e) h v I oI C oC D m₂ hh tk hP hC hx F N off ne) (fun y s' q => ?_) (fun _ _ e => e.elim)
    exact compEnd_mono q fun nw r => comp_own J turn fin k (i + 1) _ nw (by exact ar36 e) r
end
local macro_rules | `(tactic| walk_at "eval Name") => `(tactic| (k_here; (with_reducible show wpAny _ _ (eval (Expr.Name _ _) (compEnvC _ _ _ _)) _ _ _); k_dflt (first
  | refine ldc_global (by k_asm) (by k_asm) (by k_asm) (by k_is) ?_
  | refine ldc_built (by k_asm) (by k_asm) (by k_asm) (by k_is) (by boot_by_name) (by decide) ?_)))
theorem std2_0 {x0 x1 x2 x3 x4 x5 x6 x7 x8 x9 x10 x11 x12 x13} (h : LCg.CompSrc x0 x1 x2 x3 x4 x5 x6 x7 x8 x9 x10 x11 x12 x13) : LCg.CompSrc x0 x1 x2 x3 x4 x5 x6 x7 x8 x9 x10 x11 x12 x13 := h
local macro_rules | `(tactic| walk_at "mine stop") => `(tactic| with_reducible refine std2_0 ?_)

theorem std2_1 {x0 x1 x2 x3 x4 x5 x6 x7 x8 x9 x10 x11} (h : wpAny x0 x1 (exec (Stmt.Assign x2 (Expr.ListComp x3 x4 x5 x6) x7) x8) x9 x10 x11) : wpAny x0 x1 (exec (Stmt.Assign x2 (Expr.ListComp x3 x4 x5 x6) x7) x8) x9 x10 x11 := h
theorem std2_2 {x0 x1 x2 x3 x4 x5 x6 x7 x8 x9} (h : wpAny x0 x1 (eval (Expr.ListComp x2 x3 x4 x5) x6) x7 x8 x9) : wpAny x0 x1 (eval (Expr.ListComp x2 x3 x4 x5) x6) x7 x8 x9 := h
local macro_rules | `(tactic| walk_at "mine stop") => `(tactic| with_reducible first | refine std2_1 ?_ | refine std2_2 ?_)

section
variable {w : World} {pp : Program} {loose : List Str} {mg mb : Str → Option Value} {h₀ : Heap} {dp un : Nat} {fr : Option (List Env)} {gd : Option (List Code)} {s : Shared} {P : Result → Shared → Prop} {Q : Value → Shared → Prop}

noncomputable def intsOf (bs : List Nat) : List Int := bs.map fun b : Nat => (b : Int)
theorem ints_get : ∀ {vs : List Value} {xs : List Int} {i : Nat} {n : Int}, IntsAre vs xs → xs[i]? = some n → ∃ t, vs[i]? = some (.int n t)
  | _, _, 0, n, .cons x t _, h => ⟨t, by simp at h; simp [h]⟩
  | _, _, i + 1, n, .cons x t r, h => by simpa using ints_get r (i := i) (by simpa using h)
  | _, _, i, n, .nil, h => by simp at h
theorem strs_get : ∀ {vs : List Value} {xs : List Str} {i : Nat} {n : Str}, StrsAre vs xs → xs[i]? = some n → ∃ t, vs[i]? = some (.str n t)
  | _, _, 0, n, .cons x t _, h => ⟨t, by simp at h; simp [h]⟩
  | _, _, i + 1, n, .cons x t r, h => by simpa using strs_get r (i := i) (by simpa using h)
  | _, _, i, n, .nil, h => by simp at h
theorem item_nat {prog : Program} {A : Around} {E : Value → Shared → Prop} {value slice : Expr} {l : Addr} {vs : List Value} {k : Nat} {x : Value} {u : Tok} (hl : s.heap.IsList l vs.toArray) (hk : k < 1000000) (hx : vs[k]? = some x) (h : Q x s)
    (hs : subscripted slice false (.ref l) (.int (k : Int) u) = operate [.ref l, .int (k : Int) u] (getItem (.ref l) (.int (k : Int) u)) := by with_unfolding_all rfl) (hg : ∀ r, letTemporaryGo value (.ref l) r = pure () := by intro _; with_unfolding_all rfl) :
    wpAny (model prog w) A (subscriptTail value slice (.ref l) (.int (k : Int) u)) Q E s :=
  subscriptTail_builtin hl.typeIs slot_list_getitem.lookup (wpAny_getItem_list hl (by exact ar37) (by exact ar38 hk) (by simpa using hx) h) hs hg
theorem item_last {prog : Program} {A : Around} {E : Value → Shared → Prop} {value slice : Expr} {l : Addr} {vs : List Value} {bs : List Nat} {u : Tok} (hl : s.heap.IsList l vs.toArray) (hi : IntsAre vs (intsOf bs)) (hne : bs ≠ []) (h : ∀ t, Q (.int ((bs.getLastD 0 : Nat) : Int) t) s)
    (hs : subscripted slice false (.ref l) (.int (-1) u) = operate [.ref l, .int (-1) u] (getItem (.ref l) (.int (-1) u)) := by with_unfolding_all rfl) (hg : ∀ r, letTemporaryGo value (.ref l) r = pure () := by intro _; with_unfolding_all rfl) :
    wpAny (model prog w) A (subscriptTail value slice (.ref l) (.int (-1) u)) Q E s := by
  have hlen := hi.length
  have hb : 0 < bs.length := List.length_pos_iff.mpr hne
  have e1 : (intsOf bs).length = bs.length := List.length_map ..
  obtain ⟨t, ht⟩ := ints_get (i := bs.length - 1) (n := ((bs.getLastD 0 : Nat) : Int)) hi (by
    unfold intsOf
    rw [List.getElem?_map]
    have : bs[bs.length - 1]? = some (bs.getLastD 0) := by
      rw [← List.getLast?_eq_getElem?, List.getLastD_eq_getLast?]
      cases e : bs.getLast? with
      | none => exact absurd (List.getLast?_eq_none_iff.mp e) hne
      | some b => rfl
    rw [this]; rfl)
  refine subscriptTail_builtin hl.typeIs slot_list_getitem.lookup (wpAny_getItem_list_neg hl (by decide) ?_ (by decide) ?_ (h t)) hs hg
  · simp only [List.size_toArray]; exact ar39 hlen hb e1
  · have e : ((-1 : Int) + (vs.toArray.size : Int)).toNat = bs.length - 1 := by simp only [List.size_toArray]; exact ar40 hlen e1
    rw [e]; simpa using ht
theorem set_own {prog : Program} {A : Around} {E : Value → Shared → Prop} {L D : Addr} {m : Str → Option Value} {news news' : List (Addr × Obj)} {vs : List Value} {n k : Nat} {v : Value} {t : Tok} {Q : Unit → Shared → Prop} (F : Fr h₀ L s.heap m) (N : News h₀ L s.heap news) (U : Upd D (listOf vs.toArray n) (listOf (vs.set k v).toArray n) news news')
    (hk : k < vs.length) (hn : vs.length < 1000) (h : ∀ h', Fr h₀ L h' m → News h₀ L h' news' → Q () { s with heap := h' }) : wpAny (model prog w) A (setItem (.ref D) (.int (k : Int) t) v) Q E s := by
  refine byG fun G9 k9 => ?_; rcases U.split with ⟨pre, post, rfl, rfl, a, b⟩; all_goals (refine k9 ?_; clear k9 G9)
  have z := N (D, listOf vs.toArray n) (List.mem_append.mpr (.inr (.head _)))
  refine ki_setAt z.1 (by omega) (by exact ar41 hk hn) (by rw [List.size_toArray]; exact ar42 hk) (h _ (F.change (Heap.SameBut.update ..) z.2.1 z.2.2) (ki_turn _ N a b ?_ ?_))
  · show vs.toArray.setIfInBounds (k : Int).toNat v = (vs.set k v).toArray
    rw [Int.toNat_natCast]
    simp
  · rw [if_pos (by simp)]
theorem strs_set {x : Str} {t : Tok} : ∀ {vs : List Value} {xs : List Str} (k : Nat), StrsAre vs xs → StrsAre (vs.set k (.str x t)) (xs.set k x)
  | _, _, _, .nil => .nil
  | _, _, 0, .cons y u h => .cons _ _ h
  | _, _, k + 1, .cons y u h => .cons y u (strs_set k h)
/-- the row: boxes everywhere, then each ball's name at its place -/
noncomputable def rowP : List Nat → List (List Nat) → List (List Nat) → List (List Nat)
  | b :: bs, n :: ns, row => rowP bs ns (row.set b n)
  | _, _, row => row
noncomputable def rowLen (bs : List Nat) : Nat := bs.getLastD 0 + 1 + bs.length

inductive RowI (D : Addr) (bs : List Nat) (ns : List (List Nat)) (i : Nat) (m : Str → Option Value) (news : List (Addr × Obj)) : Prop
  | mk (cur : List (List Nat)) (ys : List Value) (k : Nat) (e : news = [(D, listOf ys.toArray k)]) (hy : StrsAre ys (cur.map mkS)) (hl : cur.length = rowLen bs) (hr : rowP (bs.drop i) (ns.drop i) cur = rowP bs ns ((List.range (rowLen bs)).map boxC))
    (hm : m (Str.ofString "row") = some (.ref D))
set_option maxHeartbeats 2000000 in
theorem row_spec {ab an : Addr} {vb vn : List Value} {bs : List Nat} {ns : List (List Nat)}
    (k₀ : h₀.StaysIn s.heap) (X : (hd.heap_39 w.params).In h₀) (T : TopRead pp loose mg mb h₀) (hroom : dp + 1 < recursionLimit)
    (hl : s.heap.IsList ab vb.toArray) (hi : IntsAre vb (intsOf bs)) (hl2 : s.heap.IsList an vn.toArray) (hi2 : StrsAre vn (ns.map mkS)) (hne : bs ≠ []) (hb : ∀ b ∈ bs, b < 100) (hbl : bs.length < 10) (hord : ∀ b ∈ bs, b < rowLen bs) (hnl : ns.length = bs.length)
    (h : ∀ h' tk g' a vs n, s.heap.StaysIn h' → (AllBare s.gens → AllBare g') → s.heap.get? a = none → h'.get? a = some (listOf vs.toArray n) → StrsAre vs ((rowP bs ns ((List.range (rowLen bs)).map boxC)).map mkS) → Q (.ref a) { s with heap := h', toks := tk, gens := g' }) :
    wpAny (model PR w) (AA dp un fr gd) (call (.ref 135) [.ref ab, .ref an]) Q NoE s := by
  refine' enterM (binds := [(Str.ofString "balls", .ref ab), (Str.ofString "names", .ref an)]) [] k₀ X T (fun _ q => nomatch q) ?ho ?hcd ?hroom ?hb ?hloc ?_ ?c2 ?c3 ?c4 ?c5
  case ho => k_is
  case hcd => k_is
  case hroom => exact Nat.lt_of_succ_lt hroom
  case hb => exact BindsTo.of_eq rfl
  case hloc => exact locs rfl
  case c2 => rfl
  case c3 => rfl
  case c4 => rfl
  case c5 => decide
  intro g L h₁ kg bg og F N Xg Tg
  have hlg : g.IsList ab vb.toArray := stays_list (But.nil bg) hl
  have hvb : vb.length = bs.length := hi.length.trans (List.length_map ..)
  have hvn : vn.length = ns.length := hi2.length.trans (List.length_map ..)
  have hlg2 : g.IsList an vn.toArray := stays_list (But.nil bg) hl2
  have fin : ∀ h' tk g' a vs n, g.StaysIn h' → (AllBare s.gens → AllBare g') → g.get? a = none → h'.get? a = some (listOf vs.toArray n) → StrsAre vs ((rowP bs ns ((List.range (rowLen bs)).map boxC)).map mkS) → Q (.ref a) { s with heap := h', toks := tk, gens := g' } :=
    fun h' tk g' a vs n k hb ha he hv => h h' tk g' a vs n (fun b o e => k b o (bg.nil b o e)) hb (by
      cases e : s.heap.get? a with
      | none => rfl
      | some o => have := bg.nil a o e; rw [ha] at this; cases this) he hv
  clear k₀ X T kg og hl hl2 h bg
  show wpAny _ _ _ _ _ _
  k_fold
  walk_at "mine go"
  refine LCg.Assign_ListComp_U (F₀ := F) (by rfl) (by with_unfolding_all rfl) (by rfl) (by decide) (by rfl) (by decide) (by rfl) (by rfl) (by rfl) ?_
  walk_at "mine go"
  refine item_last (stays_list F.keep hlg) hi hne fun t1 => ?_
  walk_at "mine go"
  rename Fr _ _ _ _ => F2
  rename News _ _ _ _ => N2
  rename IsRange _ _ _ _ _ _ _ _ => hr
  have hlast : bs.getLastD 0 < 100 := by
    rw [List.getLastD_eq_getLast?]
    cases e : bs.getLast? with
    | none => exact absurd (List.getLast?_eq_none_iff.mp e) hne
    | some b => exact hb b (List.mem_of_getLast? e)
  have hrl : rowLen bs = bs.getLastD 0 + 1 + bs.length := rfl
  have hvs : ((intsOf bs).length : Int) = bs.length := by unfold intsOf; rw [List.length_map]
  rw [hvs] at hr
  refine LCg.CompSrc.range (n := rowLen bs) rfl F2 N2 hr (small_one (by decide) (by decide) (by exact ar43) (by exact ar44 hbl hlast)) (by rw [rangeSize_nat]; exact ar45 hrl) (by rw [sizeLine_eq]; exact ar46 hbl hlast hrl) fun g' => ?_
  refine comp_own (fun i ys news => news = [] ∧ StrsAre ys ((List.range i).map fun p => mkS (boxC p))) ?_ ?_ _ 0 [] _ (Nat.zero_add _) ⟨rfl, .nil⟩
  · rintro i ys news hin ⟨rfl, hys⟩ v I oI C oC D m₂ h3 tk3 ⟨t3, rfl⟩ hC hx F3 N3 off ne
    rw [Int.zero_add] at hx
    walk_at "mine go"
    refine box_spec F3.keep Xg Tg (show dp + 1 < _ from hroom) fun h4 tk4 t4 k4 => ?_
    exact LCg.CompEnd.intro (fr_stays F3 k4) (news_stays N3 k4) [] (fun p hp => hp) trivial trivial ⟨rfl, by rw [List.range_succ, List.map_append]; exact strs_snoc hys⟩
  · rintro ys news ⟨rfl, hys⟩
    unfold LCg.FinA
    intro D h5 tk5 F5 N5 o1
    clear hr F2 N2
    walk_at "mine go"
    refine wpAny_For ?_
    walk_at "mine go"
    rename Fr _ _ _ _ => F6
    rename News _ _ _ _ => N6
    rename ZipApart _ _ _ _ _ _ _ => ZA
    rename IsZip _ _ _ _ _ ∧ _ => ZS
    rename_i z TI TO i1 i2 _ _ _ _ _ _ hz1 hz2 hz3 hz4 hz5
    have hLz : @LT.lt Nat _ L z ∧ @LT.lt Nat _ L TO ∧ @LT.lt Nat _ L i1 ∧ @LT.lt Nat _ L i2 := by assumption
    have hDz : @LE.le Nat _ D (h5.objs.size - 1) := hz5 _ (.head _)
    have ZS' := ZS
    refine byG fun G9 k9 => ?_; rcases ZS' with ⟨Z1, Z2, Z3, Z4, Z5, Z6, Z7⟩; all_goals (refine k9 ?_; clear k9 G9)
    have hTL : TI ≠ L := fun e => by
      refine byG fun G9 k9 => ?_; rcases F6.ns with ⟨o, es, ep, ho, hd', _⟩; all_goals (refine k9 ?_; clear k9 G9)
      rw [← e] at ho
      obtain ⟨o2, ho2⟩ : ∃ o2, _ = some o2 := ⟨_, Z2⟩
      have := Z2.symm.trans ho
      cases this
      cases hd'
    have hTD : TI ≠ D := fun e => by
      have e1 := (N6 (D, _) (.head _)).1
      rw [← e] at e1
      have e2 : Value.type "tuple" = Value.type "list" := congrArg Obj.cls (Option.some.inj (Z2.symm.trans e1))
      injection e2 with e3
      exact absurd e3 (by decide)
    have hg0 : ∀ b : Nat, L < b → g.get? b = none := fun b hb => Heap.get?_none_of_le (Nat.le_trans F6.above (Nat.le_of_lt hb))
    have hgl : ∀ {b : Nat} {its : Array Value}, g.IsList b its → b < L := fun ⟨o, ho, _⟩ => Nat.lt_of_lt_of_le (Heap.lt_size ho) F6.above
    have hab := hgl hlg
    have han := hgl hlg2
    have hD0 := (N6 (D, _) (.head _)).2.2
    have hDab : D ≠ ab := fun e => by obtain ⟨o, ho, _⟩ := hlg; rw [e] at hD0; rw [hD0] at ho; cases ho
    have hDan : D ≠ an := fun e => by obtain ⟨o, ho, _⟩ := hlg2; rw [e] at hD0; rw [hD0] at ho; cases ho
    refine (WalksT.zip2 rfl z TI TO i1 i2 ab an ZA vb.toArray vn.toArray).self 0 _ _ _ ZS ?_
    refine for_walkT (WalksT.zip2 rfl z TI TO i1 i2 ab an ZA vb.toArray vn.toArray) (RowI D bs ns) rfl
      F6 N6 ZS ?_ ?_ ?_ ⟨_, _, _, rfl, by rw [List.map_map]; exact hys, by rw [List.length_map, List.length_range], rfl, rfl⟩ (stores_local) (stores_local) (fun _ _ q => q) ?_ ?_ ?_
    · simp only [List.mem_cons, List.not_mem_nil, or_false, not_or]
      exact ⟨Nat.ne_of_lt hLz.1, Ne.symm hTL, Nat.ne_of_lt hLz.2.1, Nat.ne_of_lt hLz.2.2.1, Nat.ne_of_lt hLz.2.2.2, Nat.ne_of_gt hab, Nat.ne_of_gt han⟩
    · intro q hq
      obtain rfl := List.mem_singleton.mp hq
      simp only [List.mem_cons, List.not_mem_nil, or_false, not_or]
      exact ⟨Nat.ne_of_lt (Nat.lt_of_le_of_lt hDz hz1), Ne.symm hTD, Nat.ne_of_lt (Nat.lt_of_le_of_lt hDz hz2), Nat.ne_of_lt (Nat.lt_of_le_of_lt hDz hz3), Nat.ne_of_lt (Nat.lt_of_le_of_lt hDz hz4), hDab, hDan⟩
    · intro b hb
      refine memc hb ?_ fun b hb => ?_
      · exact hg0 _ hLz.1
      refine memc hb ?_ fun b hb => ?_
      · exact hg0 _ hLz.2.1
      refine memc hb ?_ fun b hb => ?_
      · exact hg0 _ hLz.2.2.1
      refine memc hb ?_ fun b hb => ?_
      · exact hg0 _ hLz.2.2.2
      cases hb
    · rintro i vals ⟨a, b, _, _, rfl⟩
      exact ⟨a, b, rfl⟩
    · rintro i a b m₁ news₁ ot h7 tk7 gs7 hin ⟨x, y, hx, hy, hxy⟩ ⟨cur, ys7, k7, rfl, hys7, hlen7, hrow7, hmr⟩ hgs F7 N7 hot
      obtain ⟨rfl, rfl⟩ : a = x ∧ b = y := by simpa using hxy
      have hib : i < bs.length := by simp at hin; exact ar47 hvb hin
      have hin2 : i < ns.length := by exact (Nat.lt_of_lt_of_le hib (Nat.le_of_eq hnl.symm))
      obtain ⟨tb, htb⟩ := ints_get (i := i) (n := ((bs[i] : Nat) : Int)) (‹IntsAre vb (intsOf bs)›) (by simp [intsOf, hib])
      obtain ⟨tn, htn⟩ := strs_get (i := i) (n := mkS ns[i]) hi2 (by simp [hin2])
      have hx2 : vb[i]? = some a := by simpa using hx
      have hy2 : vn[i]? = some b := by simpa using hy
      obtain rfl : a = .int ((bs[i] : Nat) : Int) tb := Option.some.inj (hx2.symm.trans htb)
      obtain rfl : b = .str (mkS ns[i]) tn := Option.some.inj (hy2.symm.trans htn)
      have hyl : ys7.length = rowLen bs := (hys7.length.trans (List.length_map ..)).trans hlen7
      have hbi := hord bs[i] (List.getElem_mem hib)
      dsimp only [List.cons_append, List.nil_append] at N7
      walk_at "mine go"
      rename Fr _ _ _ _ => F8
      rename News _ _ _ _ => N8
      refine set_own F8 N8 (.head fun p hp => hot (D, _) (.head _) p hp) (by exact (Nat.lt_of_lt_of_le hbi (Nat.le_of_eq hyl.symm))) (by exact ar48 hbl hlast hrl hyl) fun h9 F9 N9 => ?_
      walk_at "mine go"
      refine ⟨_, _, gs7, _, [(D, listOf (ys7.set bs[i] (.str (mkS ns[i]) tn)).toArray k7)], rfl, hgs, F9, N9, rfl, cur.set bs[i] ns[i], _, _, rfl, by rw [List.map_set]; exact strs_set _ hys7, by rw [List.length_set]; exact hlen7, ?_, hmr⟩
      rw [← hrow7, List.drop_eq_getElem_cons hib, List.drop_eq_getElem_cons hin2]
      rfl
    · rintro m₁ news₁ h7 tk7 gs7 ⟨cur, ys7, k7, rfl, hys7, hlen7, hrow7, hmr⟩ hgs F7 N7
      have e1 : min vb.toArray.size vn.toArray.size = bs.length := by simp; exact ar49 hnl hvb hvn
      rw [e1, List.drop_length, ← hnl, List.drop_length] at hrow7
      have e2 : cur = rowP bs ns ((List.range (rowLen bs)).map boxC) := hrow7
      rw [e2] at hys7
      try dsimp only
      walk_at "mine go"
      rename Fr _ _ _ _ => F8
      rename News _ _ _ _ => N8
      try dsimp only
      exact fin _ _ _ _ _ _ F8.keep hgs (N8 (D, _) (.head _)).2.2 (N8 (D, _) (.head _)).1 hys7
end
-- L2
section
variable {prog : Program} {w : World} {A : Around} {s : Shared} {g : Heap} {L : Addr} {m : Str → Option Value} {news : List (Addr × Obj)} {Q : Flow → Shared → Prop} {R : Result → Shared → Prop} {env : Env} {body : List Stmt}

theorem for_list {x : Str} {px : Pos} {l : Addr} {its : Array Value} (J : Nat → (Str → Option Value) → List (Addr × Obj) → Prop) (hh : A.handled = none)
    (F : Fr g L s.heap m) (N : News g L s.heap news) (hl : s.heap.IsList l its) (hlL : l ≠ L) (hln : ∀ q ∈ news, q.1 ≠ l) (hJ : J 0 m news) (hx : Stores prog w A g L env x px) (hR : ∀ f s', Q f s' → R (.ok f) s')
    (turn : ∀ i v m₁ news₁ ot h₁ tk₁ gs₁, i < its.size → its[i]? = some v → J i m₁ news₁ → (AllBare s.gens → AllBare gs₁) → Fr g L h₁ (fun y => if y = x then some v else m₁ y) → News g L h₁ (news₁ ++ ot) → (∀ q ∈ news₁, ∀ r ∈ ot, r.1 ≠ q.1) →
      ∀ Jp : Shared → Prop, LpK (TurnA g L s.gens s.drawn s.os ot news₁ (J (i + 1))) Jp → wpAny (model prog w) A (execs body env) (BodyK Jp Q) NoE ⟨h₁, gs₁, s.drawn, tk₁, s.os⟩)
    (done : ∀ m₁ news₁ h₁ tk₁ gs₁, J its.size m₁ news₁ → (AllBare s.gens → AllBare gs₁) → Fr g L h₁ m₁ → News g L h₁ news₁ → Q .next ⟨h₁, gs₁, s.drawn, tk₁, s.os⟩) :
    wpAny (model prog w) A (pyIter (.ref l)) (fun it s₂ => codeAny (model prog w) A (.forLoop (.Name x px) it body [] env) R s₂) NoE s := by
  have hlt : l < s.heap.objs.size := by obtain ⟨_, e, _⟩ := hl; exact Heap.lt_size e
  refine wpAny_pyIter_list hl ?_
  refine for_walk (Walks.list hh s.heap.objs.size l (Nat.ne_of_lt hlt) its) J (F.push _) (fun q hq => ⟨Heap.get?_push_of_some _ (N q hq).1, (N q hq).2⟩) ⟨⟨_, Heap.get?_push_size _ rfl, rfl, rfl⟩, hl.push _⟩ ?_ ?_ ?_ hJ hx hR turn done
  · simp only [List.mem_cons, List.not_mem_nil, or_false, not_or]
    exact ⟨Nat.ne_of_lt F.ns.lt, Ne.symm hlL⟩
  · intro q hq
    simp only [List.mem_cons, List.not_mem_nil, or_false, not_or]
    exact ⟨Nat.ne_of_lt (Heap.lt_size (N q hq).1), hln q hq⟩
  · intro b hb
    rw [List.mem_singleton.mp hb]
    exact Heap.get?_none_of_le (Nat.le_trans F.above (Nat.le_of_lt F.ns.lt))

theorem for_range {x : Str} {px : Pos} {r : Addr} {a b c : Int} {n : Nat} {t u v : Tok} (J : Nat → (Str → Option Value) → List (Addr × Obj) → Prop) (hh : A.handled = none)
    (F : Fr g L s.heap m) (N : News g L s.heap news) (hr : IsRange s.heap r a b c t u v) (hsm : Builtin.Range.small a b c = true) (hn : Builtin.Range.rangeSize a b c = (n : Int)) (hJ : J 0 m news) (hx : Stores prog w A g L env x px) (hR : ∀ f s', Q f s' → R (.ok f) s')
    (turn : ∀ i t m₁ news₁ ot h₁ tk₁ gs₁, i < n → J i m₁ news₁ → (AllBare s.gens → AllBare gs₁) → Fr g L h₁ (fun y => if y = x then some (.int (a + (i : Int) * c) t) else m₁ y) → News g L h₁ (news₁ ++ ot) → (∀ q ∈ news₁, ∀ r ∈ ot, r.1 ≠ q.1) →
      ∀ Jp : Shared → Prop, LpK (TurnA g L s.gens s.drawn s.os ot news₁ (J (i + 1))) Jp → wpAny (model prog w) A (execs body env) (BodyK Jp Q) NoE ⟨h₁, gs₁, s.drawn, tk₁, s.os⟩)
    (done : ∀ m₁ news₁ h₁ tk₁ gs₁, J n m₁ news₁ → (AllBare s.gens → AllBare gs₁) → Fr g L h₁ m₁ → News g L h₁ news₁ → Q .next ⟨h₁, gs₁, s.drawn, tk₁, s.os⟩) :
    wpAny (model prog w) A (pyIter (.ref r)) (fun it s₂ => codeAny (model prog w) A (.forLoop (.Name x px) it body [] env) R s₂) NoE s := by
  refine wpAny_pyIter_range hr hsm ?_
  refine for_walk (Walks.range hh s.heap.objs.size a c n) J (F.push _) (fun q hq => ⟨Heap.get?_push_of_some _ (N q hq).1, (N q hq).2⟩) (by rw [hn]; simpa using Heap.get?_push_size _ rfl) ?_ ?_ ?_ hJ hx hR ?_ done
  · simp only [List.mem_cons, List.not_mem_nil, or_false]
    exact Nat.ne_of_lt F.ns.lt
  · intro q hq
    simp only [List.mem_cons, List.not_mem_nil, or_false]
    exact Nat.ne_of_lt (Heap.lt_size (N q hq).1)
  · intro b hb
    rw [List.mem_singleton.mp hb]
    exact Heap.get?_none_of_le (Nat.le_trans F.above (Nat.le_of_lt F.ns.lt))
  · rintro i v m₁ news₁ ot h₁ tk₁ gs₁ hin ⟨t, rfl⟩ hJ hb F N ho
    exact turn i t m₁ news₁ ot h₁ tk₁ gs₁ hin hJ hb F N ho
end
-- D3
section
variable {w : World} {pp : Program} {loose : List Str} {mg mb : Str → Option Value} {h₀ : Heap} {dp un : Nat} {fr : Option (List Env)} {gd : Option (List Code)} {s : Shared} {P : Result → Shared → Prop} {Q : Value → Shared → Prop}

/-- what stands between a ball and a box, end to end -/
noncomputable def betw (row : List (List Nat)) (b x : Nat) : List Nat := ((row.drop (b + 1)).take (x - (b + 1))).flatten
noncomputable def nestGo (bs : List Nat) (row : List (List Nat)) (b : Nat) : Nat → Nat → List Nat
  | 0, _ => []
  | k + 1, x => if x ∉ bs ∧ checkP (betw row b x) = true then [x] else nestGo bs row b k (x + 2)
noncomputable def nestN (row : List (List Nat)) (b : Nat) : Nat := (row.length - b) / 2
noncomputable def nestP (bs : List Nat) (row : List (List Nat)) : List Nat := bs.flatMap fun b => nestGo bs row b (nestN row b) (b + 1)

theorem small_two {a b : Int} (ha : 0 ≤ a) (ha' : a < 1000) (hb : 0 ≤ b) (hb' : b < 1000) : Builtin.Range.small a b 2 = true := by
  unfold Builtin.Range.small Builtin.Range.rangeFitsLong Builtin.Range.rangeSize
  simp
  refine ⟨?_, .inr ?_⟩
  · split <;> (first | exact ar50 ha ha' hb hb' | exact ar51 ha ha' hb hb')
  · exact ar52 hb hb'
theorem size_two {b n : Nat} (h : b < n) : Builtin.Range.rangeSize ((b : Int) + 1) (n : Int) 2 = (((n - b) / 2 : Nat) : Int) := by
  unfold Builtin.Range.rangeSize
  rw [if_pos (by decide)]
  split <;> omega

theorem strs_drop : ∀ {vs : List Value} {xs : List Str} (k : Nat), StrsAre vs xs → StrsAre (vs.drop k) (xs.drop k)
  | _, _, 0, h => by simpa using h
  | _, _, k + 1, .nil => by simpa using StrsAre.nil
  | _, _, k + 1, .cons _ _ h => by simpa using strs_drop k h
theorem strs_take : ∀ {vs : List Value} {xs : List Str} (k : Nat), StrsAre vs xs → StrsAre (vs.take k) (xs.take k)
  | _, _, 0, _ => by simpa using StrsAre.nil
  | _, _, k + 1, .nil => by simpa using StrsAre.nil
  | _, _, k + 1, .cons _ _ h => by simpa using StrsAre.cons _ _ (strs_take k h)
theorem flat_part {l : List (List Nat)} {a k : Nat} : ∀ c, c ∈ ((l.drop a).take k).flatten → c ∈ l.flatten := fun c hc => by
  obtain ⟨x, hx, hc⟩ := List.mem_flatten.mp hc
  exact List.mem_flatten.mpr ⟨x, List.mem_of_mem_drop (List.mem_of_mem_take hx), hc⟩
theorem flat_len : ∀ {l : List (List Nat)} {x : List Nat}, x ∈ l → x.length ≤ l.flatten.length
  | y :: l, x, h => by
    rw [List.flatten_cons, List.length_append]
    rcases List.mem_cons.mp h with rfl | h
    · exact ar53
    · have := flat_len h; exact ar54 this
theorem flat_part_len {l : List (List Nat)} (a k : Nat) : ((l.drop a).take k).flatten.length ≤ l.flatten.length := by
  have e : l.flatten = (l.take a).flatten ++ (((l.drop a).take k).flatten ++ ((l.drop a).drop k).flatten) := by
    rw [← List.flatten_append, List.take_append_drop, ← List.flatten_append, List.take_append_drop]
  rw [e, List.length_append, List.length_append]; exact ar55
theorem mkS_ascii {l : List Nat} (h : ∀ c ∈ l, c < 128) : (mkS l).cps.all (· < 128) = true := by
  rw [Array.all_eq_true']
  intro c hc
  have := h c (by simpa [mkS] using hc)
  simpa using this

theorem ints_append {vs us : List Value} {xs ys : List Int} (h : IntsAre vs xs) (h' : IntsAre us ys) : IntsAre (vs ++ us) (xs ++ ys) := IntsAre.append h h'

inductive NestI (fl ab ar : Addr) (bs : List Nat) (row : List (List Nat)) (i : Nat) (m : Str → Option Value) (news : List (Addr × Obj)) : Prop
  | mk (ys : List Value) (k : Nat) (e : news = [(fl, listOf ys.toArray k)]) (hy : IntsAre ys (intsOf ((bs.take i).flatMap fun b => nestGo bs row b (nestN row b) (b + 1)))) (hl : ys.length ≤ i) (mf : m (Str.ofString "filled") = some (.ref fl)) (mb : m (Str.ofString "balls") = some (.ref ab))
    (mr : m (Str.ofString "row") = some (.ref ar))
inductive NestJ (fl ab ar : Addr) (bs : List Nat) (row : List (List Nat)) (b : Nat) (ys : List Value) (k : Nat) (ot : List (Addr × Obj)) (j : Nat) (m : Str → Option Value) (news : List (Addr × Obj)) : Prop
  | mk (e : news = (fl, listOf ys.toArray k) :: ot) (hg : nestGo bs row b (nestN row b - j) (b + 1 + 2 * j) = nestGo bs row b (nestN row b) (b + 1)) (mf : m (Str.ofString "filled") = some (.ref fl)) (mb : m (Str.ofString "balls") = some (.ref ab))
    (mr : m (Str.ofString "row") = some (.ref ar)) (t : Tok) (mball : m (Str.ofString "ball") = some (.int (b : Int) t))
set_option maxHeartbeats 2000000 in
theorem nest_spec {ab ar : Addr} {vb vr : List Value} {bs : List Nat} {row : List (List Nat)}
    (k₀ : h₀.StaysIn s.heap) (X : (hd.heap_39 w.params).In h₀) (T : TopRead pp loose mg mb h₀) (hroom : dp + 3 < recursionLimit)
    (hl : s.heap.IsList ab vb.toArray) (hi : IntsAre vb (intsOf bs)) (hl2 : s.heap.IsList ar vr.toArray) (hi2 : StrsAre vr (row.map mkS)) (hb : ∀ b ∈ bs, b < row.length) (hbl : bs.length < 10) (hrl : row.length < 100) (hfl : row.flatten.length < 1000) (hasc : ∀ c ∈ row.flatten, c < 128)
    (h : ∀ h' tk g' a vs n, s.heap.StaysIn h' → (AllBare s.gens → AllBare g') → s.heap.get? a = none → h'.get? a = some (listOf vs.toArray n) → IntsAre vs (intsOf (nestP bs row)) → Q (.ref a) { s with heap := h', toks := tk, gens := g' }) :
    wpAny (model PR w) (AA dp un fr gd) (call (.ref 142) [.ref ab, .ref ar]) Q NoE s := by
  refine' enterM (binds := [(Str.ofString "balls", .ref ab), (Str.ofString "row", .ref ar)]) [] k₀ X T (fun _ q => nomatch q) ?ho ?hcd ?hroom ?hb ?hloc ?_ ?c2 ?c3 ?c4 ?c5
  case ho => k_is
  case hcd => k_is
  case hroom => show dp < recursionLimit; exact (Nat.lt_trans (Nat.lt_add_of_pos_right (by decide)) hroom)
  case hb => exact BindsTo.of_eq rfl
  case hloc => exact locs rfl
  case c2 => rfl
  case c3 => rfl
  case c4 => rfl
  case c5 => decide
  intro g L h₁ kg bg og F N Xg Tg
  have hlg : g.IsList ab vb.toArray := stays_list (But.nil bg) hl
  have hlg2 : g.IsList ar vr.toArray := stays_list (But.nil bg) hl2
  have hvb : vb.length = bs.length := hi.length.trans (List.length_map ..)
  have hvr : vr.length = row.length := hi2.length.trans (List.length_map ..)
  have fin : ∀ h' tk g' a vs n, g.StaysIn h' → (AllBare s.gens → AllBare g') → g.get? a = none → h'.get? a = some (listOf vs.toArray n) → IntsAre vs (intsOf (nestP bs row)) → Q (.ref a) { s with heap := h', toks := tk, gens := g' } :=
    fun h' tk g' a vs n k hb ha he hv => h h' tk g' a vs n (fun b o e => k b o (bg.nil b o e)) hb (by
      cases e : s.heap.get? a with
      | none => rfl
      | some o => have := bg.nil a o e; rw [ha] at this; cases this) he hv
  clear k₀ X T kg og hl hl2 h bg
  show wpAny _ _ _ _ _ _
  k_fold
  walk_at "mine go"
  refine wpAny_For ?_
  walk_at "mine go"
  rename Fr _ _ _ _ => F1
  rename News _ _ _ _ => N1
  rename_i fl _ _ _
  have hlL : ∀ {b : Nat} {its : Array Value}, g.IsList b its → b ≠ L := fun ⟨o, ho, _⟩ => Nat.ne_of_lt (Nat.lt_of_lt_of_le (Heap.lt_size ho) F1.above)
  have hfl0 : ∀ {b : Nat} {its : Array Value}, g.IsList b its → fl ≠ b := fun ⟨o, ho, _⟩ e => by have := (N1 (fl, _) (.head _)).2.2; rw [e] at this; rw [this] at ho; cases ho
  refine for_list (NestI fl ab ar bs row) rfl
    F1 N1 (stays_list F1.keep hlg) (hlL hlg) (fun q hq => by obtain rfl := List.mem_singleton.mp hq; exact hfl0 hlg) ⟨[], _, rfl, .nil, Nat.le_refl _, rfl, rfl, rfl⟩ stores_local (fun _ _ q => q) ?_ ?_
  · rintro i v m₁ news₁ ot h7 tk7 gs7 hin hv ⟨ys, k, rfl, hys, hyl, mf, mb, mr⟩ hgs F7 N7 hot
    have hib : i < bs.length := by simpa [hvb] using hin
    obtain ⟨tb, htb⟩ := ints_get (i := i) (n := ((bs[i] : Nat) : Int)) (‹IntsAre vb (intsOf bs)›) (by simp [intsOf, hib])
    obtain rfl : v = .int ((bs[i] : Nat) : Int) tb := Option.some.inj ((by simpa using hv : vb[i]? = some v).symm.trans htb)
    have hbi := hb bs[i] (List.getElem_mem hib)
    dsimp only [List.cons_append, List.nil_append] at N7
    have hstep : (bs.take (i + 1)).flatMap (fun b => nestGo bs row b (nestN row b) (b + 1)) = (bs.take i).flatMap (fun b => nestGo bs row b (nestN row b) (b + 1)) ++ nestGo bs row bs[i] (nestN row bs[i]) (bs[i] + 1) := by
      rw [List.take_succ_eq_append_getElem hib, List.flatMap_append]
      simp
    generalize hbb : bs[i] = b at *
    walk_at "mine go"
    refine wpAny_For ?_
    walk_at "mine go"
    rename Fr _ _ _ _ => F9
    rename News _ _ _ _ => N9
    rename IsRange _ _ _ _ _ _ _ _ => hr
    have hvs : (vr.toArray.size : Int) = row.length := by rw [List.size_toArray, hvr]
    rw [hvs] at hr
    refine for_range (n := nestN row b) (NestJ fl ab ar bs row b ys k ot) rfl
      F9 N9 hr (small_two (by exact ar56) (by exact ar57 hrl hbi) (by exact ar37) (by exact ar58 hrl)) (size_two hbi) ⟨rfl, rfl, mf, mb, mr, _, rfl⟩ stores_local (fun _ _ q => q) ?_ ?_
    · rintro j t9 m₂ news₂ ot₂ h10 tk10 gs10 hjn ⟨rfl, hgo, mf2, mb2, mr2, tb2, mball⟩ hgs2 F10 N10 hot2
      dsimp only [List.cons_append, List.nil_append] at N10
      have hjl : b + 1 + 2 * j ≤ row.length := by
        have : nestN row b = (row.length - b) / 2 := rfl
        exact ar59 hjn this
      have hgo1 : nestGo bs row b (nestN row b - j) (b + 1 + 2 * j) = if (b + 1 + 2 * j) ∉ bs ∧ checkP (betw row b (b + 1 + 2 * j)) = true then [b + 1 + 2 * j] else nestGo bs row b (nestN row b - (j + 1)) (b + 1 + 2 * (j + 1)) := by
        obtain ⟨d, hd⟩ : ∃ d, nestN row b - j = d + 1 := ⟨nestN row b - j - 1, by exact ar60 hjn⟩
        rw [hd, nestGo, show nestN row b - (j + 1) = d by exact ar61 hd]
        rfl
      walk_at "mine go"
      · rename ((intsOf bs).any _) = true => hm
        have hnb : ¬ ((b + 1 + 2 * j) ∉ bs ∧ checkP (betw row b (b + 1 + 2 * j)) = true) := fun q => by
          obtain ⟨x, hx, hxe⟩ := List.any_eq_true.mp hm
          obtain ⟨y, hy, rfl⟩ := List.mem_map.mp hx
          have e : y = b + 1 + 2 * j := by have := beq_iff_eq.mp hxe; exact ar62 this
          exact q.1 (e ▸ hy)
        rw [hgo1, if_neg hnb] at hgo
        try dsimp only
        rename Fr _ _ _ _ => F11
        rename News _ _ _ _ => N11
        exact ⟨_, _, gs10, _, (fl, listOf ys.toArray k) :: ot, rfl, hgs2, F11, N11, rfl, rfl, hgo, mf2, mb2, mr2, tb2, mball⟩
      · rename ((intsOf bs).any _) = false => hm
        have hnb : (b + 1 + 2 * j) ∉ bs := fun q => by
          have : (intsOf bs).any (fun x => x == (b : Int) + 1 + (j : Int) * 2) = true := List.any_eq_true.mpr ⟨((b + 1 + 2 * j : Nat) : Int), List.mem_map_of_mem q, by simp; exact ar63⟩
          rw [this] at hm; cases hm
        rename Fr _ _ _ _ => F11
        rename News _ _ _ _ => N11
        have eS : slicePick vr.toArray (some ((b : Int) + 1)) (some ((b : Int) + 1 + (j : Int) * 2)) none = ((vr.drop (b + 1)).take (2 * j)).toArray := by
          have := slicePick_run vr.toArray (b + 1) (b + 1 + 2 * j) (by rw [List.size_toArray, hvr]; exact hjl) (by exact ar64)
          rw [show ((b + 1 : Nat) : Int) = (b : Int) + 1 by exact ar65, show ((b + 1 + 2 * j : Nat) : Int) = (b : Int) + 1 + (j : Int) * 2 by exact ar66] at this
          rw [this]
          simp
        rw [eS] at N11
        refine join_own (vs := (vr.drop (b + 1)).take (2 * j)) (acc := (row.drop (b + 1)).take (2 * j)) (B := 1000) ⟨_, (N11 _ (.head _)).1, rfl, _, rfl⟩ (by rw [List.map_take, List.map_drop]; exact strs_take _ (strs_drop _ hi2)) (fun l hl => Nat.le_of_lt (Nat.lt_of_le_of_lt (flat_len (List.mem_of_mem_drop (List.mem_of_mem_take hl))) hfl)) (by rw [List.length_take, List.length_drop]; exact ar67 hrl) fun t12 k12 => ?_
        walk_at "mine go"
        rename Fr _ _ _ _ => F12
        rename News _ _ _ _ => N12
        have hbe : (((row.drop (b + 1)).take (2 * j)).flatten) = betw row b (b + 1 + 2 * j) := by
          unfold betw
          rw [show b + 1 + 2 * j - (b + 1) = 2 * j by exact ar68]
        rw [hbe]
        refine check_spec F12.keep Xg Tg (show dp + 1 + 2 < _ from hroom) (mkS_ascii fun c hc => hasc c (by rw [← hbe] at hc; exact flat_part c hc)) (by show (betw row b (b + 1 + 2 * j)).length < 1000; rw [← hbe]; exact Nat.lt_of_le_of_lt (flat_part_len _ _) hfl) fun h13 tk13 gs13 k13 hb13 => ?_
        have F13 := fr_stays F12 k13
        have N13 := news_stays N12 k13
        have eC : checkP (mkS (betw row b (b + 1 + 2 * j))).cps.toList = checkP (betw row b (b + 1 + 2 * j)) := rfl
        rw [eC]
        have N14 : News g L h13 ((fl, listOf ys.toArray k) :: (ot ++ ot₂)) := fun q hq => by
          first | exact N13 q (.tail _ hq) | exact N13 q (.tail _ (.tail _ hq)) | exact N13 q (.tail _ (.tail _ (.tail _ hq)))
        clear F12 N12 N13 k13 eC hbe hr F9 N9
        dsimp only at hb13 ⊢
        generalize checkP (betw row b (b + 1 + 2 * j)) = cb at *
        have hfo : ∀ p ∈ ot ++ ot₂, p.1 ≠ fl := fun p hp => by
          rcases List.mem_append.mp hp with hp | hp
          · exact hot (fl, _) (.head _) p hp
          · exact hot2 (fl, _) (.head _) p hp
        clear F10 N10 eS
        cases cb with
        | true =>
          rw [hgo1, if_pos ⟨hnb, rfl⟩] at hgo
          walk_at "mine go"
          rename Fr _ _ _ _ => F15
          rename News _ _ _ _ => N15
          simp only [List.push_toArray] at N15
          try dsimp only
          refine ⟨_, _, gs13, _, [(fl, listOf (ys ++ [Value.int ((b : Int) + 1 + (j : Int) * 2) t9]).toArray (k + 1))], rfl, fun q => hb13 (hgs2 (hgs q)), F15, fun q hq => N15 q ?_, rfl, _, _, rfl, ?_, ?_, mf2, mb2, mr2⟩
          · rcases List.mem_append.mp hq with hq | hq
            · rw [List.mem_singleton.mp hq]; exact .head _
            · exact .tail _ (List.mem_append_left _ hq)
          · rw [hstep, ← hgo]
            unfold intsOf
            rw [List.map_append]
            refine ints_append hys ?_
            have e : ((b + 1 + 2 * j : Nat) : Int) = (b : Int) + 1 + (j : Int) * 2 := by exact ar66
            show IntsAre _ [((b + 1 + 2 * j : Nat) : Int)]
            rw [e]
            exact .cons _ _ .nil
          · rw [List.length_append]; exact Nat.succ_le_succ hyl
        | false =>
          rw [hgo1, if_neg (fun q => Bool.noConfusion q.2)] at hgo
          walk_at "mine go"
          try dsimp only
          exact ⟨_, _, gs13, _, (fl, listOf ys.toArray k) :: ot, rfl, fun q => hb13 (hgs2 q), F13, N14, rfl, rfl, hgo, mf2, mb2, mr2, tb2, mball⟩
    · rintro m₂ news₂ h10 tk10 gs10 ⟨rfl, hgo, mf2, mb2, mr2, tb2, mball⟩ hgs2 F10 N10
      rw [Nat.sub_self] at hgo
      try dsimp only
      walk_at "mine go"
      try dsimp only
      refine ⟨_, _, gs10, _, [(fl, listOf ys.toArray k)], rfl, fun q => hgs2 (hgs q), F10, N10, rfl, ys, k, rfl, ?_, Nat.le_succ_of_le hyl, mf2, mb2, mr2⟩
      rw [hstep, ← hgo]
      show IntsAre ys (intsOf (_ ++ []))
      rw [List.append_nil]
      exact hys
  · rintro m₁ news₁ h7 tk7 gs7 ⟨ys, k, rfl, hys, hyl, mf, mb, mr⟩ hgs F7 N7
    have e1 : vb.toArray.size = bs.length := by simpa using hvb
    rw [e1, List.take_length] at hys
    try dsimp only
    walk_at "mine go"
    rename Fr _ _ _ _ => F8
    rename News _ _ _ _ => N8
    try dsimp only
    exact fin _ _ _ _ _ _ F8.keep hgs (N8 (fl, _) (.head _)).2.2 (N8 (fl, _) (.head _)).1 hys
end
-- S1
/-- the places of p in a text, from the left, not over one another -/
noncomputable def posOf (p : List Nat) : Nat → Nat → List Nat → List Nat
  | _, _, [] => []
  | i, 0, c :: r => if p.isPrefixOf (c :: r) then i :: posOf p (i + 1) (p.length - 1) r else posOf p (i + 1) 0 r
  | i, k + 1, _ :: r => posOf p (i + 1) k r
theorem subAt_iff {l p : List Nat} {i : Nat} (hp : 1 ≤ p.length) : (i + p.length ≤ l.length ∧ Builtin.Str.subAt (mkS l) (mkS p) i = true) ↔ p.isPrefixOf (l.drop i) = true := by
  have e : Builtin.Str.subAt (mkS l) (mkS p) i = true ↔ (l.drop i).take p.length = p := by
    unfold Builtin.Str.subAt
    rw [beq_iff_eq]
    have e1 : (mkS p).length = p.length := rfl
    rw [e1]
    constructor
    · intro h
      have := congrArg Array.toList h
      simpa [mkS, List.extract_eq_take_drop] using this
    · intro h
      apply Array.toList_inj.mp
      simpa [mkS, List.extract_eq_take_drop] using h
  rw [e, List.isPrefixOf_iff_prefix]
  constructor
  · rintro ⟨_, h⟩
    exact ⟨(l.drop i).drop p.length, by conv => rhs; rw [← List.take_append_drop p.length (l.drop i)]
                                        rw [h]⟩
  · intro h
    have hl := h.length_le
    rw [List.length_drop] at hl
    refine ⟨?_, ?_⟩
    · exact ar238 hp hl
    · exact (List.prefix_iff_eq_take.mp h).symm
theorem occ_go (l p : List Nat) (hp : 1 ≤ p.length) : ∀ (k i : Nat) (found : Array Nat) (free : Nat), i + k = l.length + 1 → found.size ≤ i →
    (forIn (List.range' i k) (found, free) (StrLaws.occBody (mkS l) (mkS p) l.length (l.length + 1))).run.fst.toList = found.toList ++ posOf p i (free - i) (l.drop i)
  | 0, i, found, free, hk, hs => by
    have e : l.drop i = [] := List.drop_eq_nil_iff.mpr (by exact ar239 hk)
    rw [e]
    simp [posOf]
  | k + 1, i, found, free, hk, hs => by
    rw [List.range'_succ, List.forIn_cons]
    unfold StrLaws.occBody
    have h0 := subAt_iff (l := l) (p := p) (i := i) hp
    have e1 : (mkS p).length = p.length := rfl
    rw [e1]
    by_cases hi : i = l.length
    · have e : l.drop i = [] := List.drop_eq_nil_iff.mpr (by exact (Nat.le_of_eq hi.symm))
      have e2 : l.drop (i + 1) = [] := List.drop_eq_nil_iff.mpr (by exact (Nat.le_of_lt (Nat.lt_of_le_of_lt (Nat.le_of_eq hi.symm) (Nat.lt_add_of_pos_right (by decide)))))
      rw [if_neg (fun q => by have := q.1.2; exact ar240 hp hi q)]
      have := occ_go l p hp k (i + 1) found free (by exact ar241 hk) (by exact (Nat.le_of_lt (Nat.lt_of_le_of_lt hs (Nat.lt_add_of_pos_right (by decide)))))
      unfold StrLaws.occBody at this
      rw [e1] at this
      rw [e]
      rw [e2] at this
      simpa [posOf] using this
    · have hlt : i < l.length := by exact ar242 hk hi
      have ed : l.drop i = l[i] :: l.drop (i + 1) := List.drop_eq_getElem_cons hlt
      by_cases hf : free ≤ i
      · rw [Nat.sub_eq_zero_of_le hf, ed, posOf, ← ed]
        by_cases hc : p.isPrefixOf (l.drop i) = true
        · have hq := h0.mpr hc
          rw [if_pos ⟨⟨⟨by show found.size < _; exact ar243 hk hs, hf⟩, hq.1⟩, hq.2⟩, if_pos hc]
          have := occ_go l p hp k (i + 1) (found.push i) (i + p.length) (by exact ar241 hk) (by rw [Array.size_push]; exact ar82 hs)
          unfold StrLaws.occBody at this
          rw [e1] at this
          have e3 : i + p.length - (i + 1) = p.length - 1 := by exact ar244
          rw [e3] at this
          simpa using this
        · rw [if_neg (fun q => hc (h0.mp ⟨q.1.2, q.2⟩)), if_neg hc]
          have := occ_go l p hp k (i + 1) found free (by exact ar241 hk) (by exact (Nat.le_of_lt (Nat.lt_of_le_of_lt hs (Nat.lt_add_of_pos_right (by decide)))))
          unfold StrLaws.occBody at this
          rw [e1, Nat.sub_eq_zero_of_le (by exact (Nat.le_of_lt (Nat.lt_of_le_of_lt hf (Nat.lt_add_of_pos_right (by decide)))))] at this
          simpa using this
      · obtain ⟨d, hd⟩ : ∃ d, free - i = d + 1 := ⟨free - i - 1, by exact ar245 hf⟩
        rw [hd, ed, posOf]
        rw [if_neg (fun q => hf q.1.1.2)]
        have := occ_go l p hp k (i + 1) found free (by exact ar241 hk) (by exact (Nat.le_of_lt (Nat.lt_of_le_of_lt hs (Nat.lt_add_of_pos_right (by decide)))))
        unfold StrLaws.occBody at this
        rw [e1, show free - (i + 1) = d by exact ar61 hd] at this
        simpa using this
theorem occ_pos (l p : List Nat) (hp : 1 ≤ p.length) : Builtin.Str.occurrences (mkS l) (mkS p) 0 (mkS l).length ((mkS l).length + 1) = posOf p 0 0 l := by
  rw [StrLaws.occ_eq]
  have := occ_go l p hp (l.length + 1) 0 #[] 0 (by exact ar246) (Nat.zero_le _)
  show (forIn (List.range' 0 (l.length + 1 - 0)) ((#[] : Array Nat), 0) (StrLaws.occBody (mkS l) (mkS p) l.length (l.length + 1))).run.fst.toList = _
  simpa using this

/-- p replaced by z, from the left -/
noncomputable def replL (p z : List Nat) : Nat → List Nat → List Nat
  | _, [] => []
  | 0, c :: r => if p.isPrefixOf (c :: r) then z ++ replL p z (p.length - 1) r else c :: replL p z 0 r
  | k + 1, _ :: r => replL p z k r
/-- what stands from st on, with z for each cut -/
noncomputable def gluedFrom (l z : List Nat) (k : Nat) : Nat → List Nat → List Nat
  | st, [] => l.drop st
  | st, c :: cs => (l.drop st).take (c - st) ++ (z ++ gluedFrom l z k (c + k) cs)
theorem glue_fold (z : Str) : ∀ (parts : List Str) (acc : Array Nat), parts.foldl (fun acc p => acc ++ z.cps ++ p.cps) acc = acc ++ (parts.map fun p => z.cps ++ p.cps).foldl (· ++ ·) #[]
  | [], acc => by simp
  | p :: r, acc => by
    rw [List.foldl_cons, glue_fold z r, List.map_cons, List.foldl_cons]
    have : ∀ (ps : List (Array Nat)) (a : Array Nat), ps.foldl (· ++ ·) a = a ++ ps.foldl (· ++ ·) #[] := by
      intro ps
      induction ps with
      | nil => intro a; simp
      | cons q ps ih => intro a; rw [List.foldl_cons, List.foldl_cons, ih (a ++ q), ih (#[] ++ q)]; simp [Array.append_assoc]
    rw [this _ (#[] ++ (z.cps ++ p.cps))]
    simp [Array.append_assoc]
theorem sub_mkS (l : List Nat) (i j : Nat) : Builtin.Str.strSub (mkS l) i j = mkS ((l.drop i).take (j - i)) := by
  unfold Builtin.Str.strSub mkS
  congr 1
  apply Array.toList_inj.mp
  simp [List.extract_eq_take_drop]
theorem glued_cons (z a : Str) {ps : List Str} (h : ps ≠ []) : Builtin.Str.glued z (a :: ps) = ⟨a.cps ++ z.cps ++ (Builtin.Str.glued z ps).cps⟩ := by
  cases ps with
  | nil => exact absurd rfl h
  | cons b r =>
    unfold Builtin.Str.glued
    congr 1
    show r.foldl _ (a.cps ++ z.cps ++ b.cps) = a.cps ++ z.cps ++ r.foldl _ b.cps
    rw [glue_fold z r, glue_fold z r]
    simp [Array.append_assoc]
theorem glued_parts (l z : List Nat) (k : Nat) : ∀ (cuts : List Nat) (st : Nat), Builtin.Str.glued (mkS z) (((st :: cuts.map (· + k)).zip (cuts ++ [(mkS l).length])).map fun (i, j) => Builtin.Str.strSub (mkS l) i j) = mkS (gluedFrom l z k st cuts)
  | [], st => by
    show Builtin.Str.glued (mkS z) [Builtin.Str.strSub (mkS l) st (mkS l).length] = _
    rw [sub_mkS]
    show mkS _ = mkS (l.drop st)
    congr 1
    exact List.take_of_length_le (by rw [List.length_drop]; exact Nat.le_refl _)
  | c :: cs, st => by
    have ih := glued_parts l z k cs (c + k)
    have he : (((st :: (c :: cs).map (· + k)).zip ((c :: cs) ++ [(mkS l).length])).map fun (i, j) => Builtin.Str.strSub (mkS l) i j) = Builtin.Str.strSub (mkS l) st c :: ((((c + k) :: cs.map (· + k)).zip (cs ++ [(mkS l).length])).map fun (i, j) => Builtin.Str.strSub (mkS l) i j) := rfl
    rw [he]
    have hne : ((((c + k) :: cs.map (· + k)).zip (cs ++ [(mkS l).length])).map fun (i, j) => Builtin.Str.strSub (mkS l) i j) ≠ [] := by
      intro q
      have := congrArg List.length q
      simp at this
    rw [glued_cons _ _ hne, ih, sub_mkS]
    have eg : gluedFrom l z k st (c :: cs) = (l.drop st).take (c - st) ++ (z ++ gluedFrom l z k (c + k) cs) := rfl
    rw [eg]
    unfold mkS
    congr 1
    simp
theorem glued_pos (l p z : List Nat) (hp : 1 ≤ p.length) : ∀ (n i : Nat), i + n = l.length →
    (∀ st, st ≤ i → gluedFrom l z p.length st (posOf p i 0 (l.drop i)) = (l.drop st).take (i - st) ++ replL p z 0 (l.drop i)) ∧
    (∀ sk, i + sk ≤ l.length → 1 ≤ sk → gluedFrom l z p.length (i + sk) (posOf p i sk (l.drop i)) = replL p z sk (l.drop i))
  | 0, i, hn => by
    have e : l.drop i = [] := List.drop_eq_nil_iff.mpr (by exact ar247 hn)
    rw [e]
    refine ⟨fun st hst => ?_, fun sk h1 h2 => by exact ar248 hn h1 h2⟩
    simp only [posOf, gluedFrom, replL, List.append_nil]
    exact (List.take_of_length_le (by rw [List.length_drop]; exact ar249 hn)).symm
  | n + 1, i, hn => by
    obtain ⟨ihA, ihB⟩ := glued_pos l p z hp n (i + 1) (by exact ar36 hn)
    have hlt : i < l.length := by exact ar35 hn
    have ed : l.drop i = l[i] :: l.drop (i + 1) := List.drop_eq_getElem_cons hlt
    have next : ∀ sk, i + 1 + sk ≤ l.length → gluedFrom l z p.length (i + 1 + sk) (posOf p (i + 1) sk (l.drop (i + 1))) = replL p z sk (l.drop (i + 1)) := fun sk h => by
      by_cases h0 : sk = 0
      · subst h0
        have := ihA (i + 1) (Nat.le_refl _)
        simpa using this
      · exact ihB sk h (by exact ar250 h0)
    refine ⟨fun st hst => ?_, fun sk h1 h2 => ?_⟩
    · rw [ed, posOf, replL, ← ed]
      by_cases hc : p.isPrefixOf (l.drop i) = true
      · rw [if_pos hc, if_pos hc, gluedFrom]
        have hle := (subAt_iff (l := l) hp).mpr hc
        have := next (p.length - 1) (by exact ar251 hp hle)
        rw [show i + 1 + (p.length - 1) = i + p.length by exact ar252 hp] at this
        rw [this]
      · rw [if_neg hc, if_neg hc, ihA st (by exact (Nat.le_of_lt (Nat.lt_of_le_of_lt hst (Nat.lt_add_of_pos_right (by decide)))))]
        have e : (l.drop st).take (i + 1 - st) = (l.drop st).take (i - st) ++ [l[i]] := by
          rw [show i + 1 - st = (i - st) + 1 by exact ar253 hst, List.take_succ_eq_append_getElem (by rw [List.length_drop]; exact ar254 hn hst)]
          congr 2
          rw [List.getElem_drop]
          congr 1
          exact ar255 hst
        rw [e]
        simp
    · obtain ⟨d, rfl⟩ : ∃ d, sk = d + 1 := ⟨sk - 1, by exact ar256 h2⟩
      rw [ed, posOf, replL]
      have := next d (by exact ar75 h1)
      rw [show i + 1 + d = i + (d + 1) by exact ar257] at this
      exact this
theorem replace_pos (l p z : List Nat) (hp : 1 ≤ p.length) : Builtin.Str.glued (mkS z) (Builtin.Str.partsBetween (mkS l) (posOf p 0 0 l) p.length) = mkS (replL p z 0 l) := by
  have h := glued_parts l z p.length (posOf p 0 0 l) 0
  have h2 := (glued_pos l p z hp l.length 0 (by exact ar258)).1 0 (Nat.le_refl _)
  simp only [List.drop_zero, Nat.sub_self, List.take_zero, List.nil_append] at h2
  rw [h2] at h
  exact h
theorem posOf_ne (p : List Nat) (hp : 1 ≤ p.length) : ∀ (r : List Nat) (i : Nat), posOf p i 0 r ≠ [] ↔ ∃ j, p.isPrefixOf (r.drop j) = true
  | [], i => by
    constructor
    · intro h; exact absurd rfl h
    · rintro ⟨j, hj⟩
      have := (List.isPrefixOf_iff_prefix.mp hj).length_le
      rw [List.drop_nil, List.length_nil] at this
      omega
  | c :: r, i => by
    rw [posOf]
    by_cases hc : p.isPrefixOf (c :: r) = true
    · rw [if_pos hc]
      exact ⟨fun _ => ⟨0, hc⟩, fun _ q => nomatch q⟩
    · rw [if_neg hc, posOf_ne p hp r (i + 1)]
      constructor
      · rintro ⟨j, hj⟩; exact ⟨j + 1, hj⟩
      · rintro ⟨j, hj⟩
        cases j with
        | zero => exact absurd hj hc
        | succ j => exact ⟨j, hj⟩
theorem found_pos (l p : List Nat) (hp : 1 ≤ p.length) : (Builtin.Str.occurrences (mkS l) (mkS p) 0 (mkS l).length 1).isEmpty = (posOf p 0 0 l).isEmpty := by
  have h1 := StrLaws.found_iff (mkS l) (mkS p)
  have h2 := posOf_ne p hp l 0
  have h3 : (∃ i, i + (mkS p).length ≤ (mkS l).length ∧ Builtin.Str.subAt (mkS l) (mkS p) i = true) ↔ ∃ j, p.isPrefixOf (l.drop j) = true :=
    ⟨fun ⟨i, h⟩ => ⟨i, (subAt_iff hp).mp h⟩, fun ⟨i, h⟩ => ⟨i, (subAt_iff hp).mpr h⟩⟩
  rw [h3, ← h2] at h1
  cases e : (posOf p 0 0 l) with
  | nil =>
    rw [e] at h1
    cases e2 : (Builtin.Str.occurrences (mkS l) (mkS p) 0 (mkS l).length 1).isEmpty with
    | true => rfl
    | false => rw [e2] at h1; exact absurd rfl (h1.mp rfl)
  | cons a b =>
    rw [e] at h1
    cases e2 : (Builtin.Str.occurrences (mkS l) (mkS p) 0 (mkS l).length 1).isEmpty with
    | false => rfl
    | true => rw [e2] at h1; exact absurd (h1.mpr (fun q => nomatch q)) (by decide)
-- L3
section
variable {prog : Program} {w : World} {A : Around} {s : Shared} {g : Heap} {L : Addr} {m : Str → Option Value} {news : List (Addr × Obj)} {I : Addr} {fp wr : List Addr} {n : Nat} {St : Nat → Heap → Prop} {Q : Flow → Shared → Prop} {R : Result → Shared → Prop} {env : Env} {body : List Stmt}

/-- for x in an iterator: any invariant of names and ledger; the ledger may grow -/
theorem for_walk2 {x : Str} {px : Pos} {P : Nat → Value → Prop} (Wk : Walks prog w A I fp wr n P St) (J : Nat → (Str → Option Value) → List (Addr × Obj) → Prop)
    (F : Fr g L s.heap m) (N : News g L s.heap news) (hst : St 0 s.heap) (hfL : L ∉ fp) (hfn : ∀ q ∈ news, q.1 ∉ fp) (hwg : ∀ b ∈ wr, g.get? b = none) (hocc : ∀ i h, St i h → ∀ b ∈ fp, ∃ o, h.get? b = some o) (hJ : J 0 m news) (hx : Stores prog w A g L env x px) (hR : ∀ f s', Q f s' → R (.ok f) s')
    (turn : ∀ i v m₁ news₁ ot h₁ tk₁ gs₁, i < n → P i v → J i m₁ news₁ → (AllBare s.gens → AllBare gs₁) → Fr g L h₁ (fun y => if y = x then some v else m₁ y) → News g L h₁ (news₁ ++ ot) → (∀ q ∈ news₁, ∀ r ∈ ot, r.1 ≠ q.1) →
      ∀ Jp : Shared → Prop, LpK (TurnB g L s.gens s.drawn s.os ot news₁ (J (i + 1))) Jp → wpAny (model prog w) A (execs body env) (BodyK Jp Q) NoE ⟨h₁, gs₁, s.drawn, tk₁, s.os⟩)
    (done : ∀ m₁ news₁ h₁ tk₁ gs₁, J n m₁ news₁ → (AllBare s.gens → AllBare gs₁) → Fr g L h₁ m₁ → News g L h₁ news₁ → Q .next ⟨h₁, gs₁, s.drawn, tk₁, s.os⟩) :
    codeAny (model prog w) A (.forLoop (.Name x px) (.ref I) body [] env) R s := by
  refine for_own (Q := Q) (fun k s' => ∃ i m news h tk gs, k + i = n ∧ s' = ⟨h, gs, s.drawn, tk, s.os⟩ ∧ (AllBare s.gens → AllBare gs) ∧ Fr g L h m ∧ News g L h news ∧ (∀ q ∈ news, q.1 ∉ fp) ∧ St i h ∧ J i m news)
    n ⟨0, m, news, s.heap, s.toks, s.gens, rfl, rfl, id, F, N, hfn, hst, hJ⟩ hR ?_
  rintro k s' ⟨i, m₁, news₁, h₁, tk₁, gs₁, hk, rfl, hb, F₁, N₁, hn₁, st₁, J₁⟩ Jp kJ
  have still : ∀ h', (∀ b o, b ∉ wr → h₁.get? b = some o → h'.get? b = some o) → Fr g L h' m₁ ∧ News g L h' news₁ := fun h' hk => by
    refine byG fun G9 k9 => ?_; rcases F₁.ns with ⟨oL, es, ep, hLL, r⟩; all_goals (refine k9 ?_; clear k9 G9)
    exact ⟨⟨⟨oL, es, ep, hk _ _ (fun q => hfL (Wk.sub _ q)) hLL, r⟩, fun b o e => hk b o (fun q => by rw [hwg b q] at e; cases e) (F₁.keep b o e), F₁.above⟩,
      fun q hq => ⟨hk _ _ (fun z => hn₁ q hq (Wk.sub _ z)) (N₁ q hq).1, (N₁ q hq).2⟩⟩
  cases k with
  | zero =>
    obtain rfl : i = n := by exact ar109 hk
    refine Wk.done _ _ _ st₁ fun h' tk' hk' => ?_
    obtain ⟨F₂, N₂⟩ := still h' hk'
    exact done _ _ _ _ _ J₁ hb F₂ N₂
  | succ k =>
    refine Wk.item i _ _ _ (by exact ar110 hk) st₁ fun v hw tk' hP st₂ hk' => ?_
    obtain ⟨F₂, N₂⟩ := still hw hk'
    refine wpAny_pure ?_
    refine hx _ _ _ v _ F₂ (news_others N₂) fun h₃ tk₃ F₃ N₃ => ?_
    have st₃ : St (i + 1) h₃ := Wk.frame _ _ _ st₂ (keep_others F₂ F₃ N₃ hfL hn₁)
    refine turn i v m₁ news₁ _ h₃ tk₃ gs₁ (by exact ar110 hk) hP J₁ hb F₃ N₃ (fun q hq r hr e => (mem_others.mp hr).2.2.2 (e ▸ List.mem_map_of_mem hq)) Jp ⟨fun s₃ => ?_⟩
    rintro ⟨h₄, tk₄, gs₄, m₄, news₄, e, hb₄, F₄, N₄, hm, J₄⟩
    refine kJ.h _ ⟨k, Nat.lt_succ_self _, i + 1, m₄, news₄, h₄, tk₄, gs₄, by exact ar111 hk, e, hb₄, F₄, fun q hq => N₄ q (List.mem_append_left _ hq), fun q hq => ?_, Wk.frame _ _ _ st₂ (keep_others F₂ F₄ N₄ hfL hn₁), J₄⟩
    rcases hm q hq with hm | hm
    · obtain ⟨r, hr, e⟩ := List.mem_map.mp hm
      rw [← e]; exact hn₁ r hr
    · intro hb
      obtain ⟨o, ho⟩ := hocc _ _ st₂ q.1 hb
      have z := N₄ q (List.mem_append_left _ hq)
      refine hm (q.1, o) (mem_others.mpr ⟨ho, z.2.1, z.2.2, fun x => ?_⟩) rfl
      obtain ⟨p, hp, e2⟩ := List.mem_map.mp x
      exact hn₁ p hp (e2 ▸ hb)

theorem for_list2 {x : Str} {px : Pos} {l : Addr} {its : Array Value} (J : Nat → (Str → Option Value) → List (Addr × Obj) → Prop) (hh : A.handled = none)
    (F : Fr g L s.heap m) (N : News g L s.heap news) (hl : s.heap.IsList l its) (hlL : l ≠ L) (hln : ∀ q ∈ news, q.1 ≠ l) (hJ : J 0 m news) (hx : Stores prog w A g L env x px) (hR : ∀ f s', Q f s' → R (.ok f) s')
    (turn : ∀ i v m₁ news₁ ot h₁ tk₁ gs₁, i < its.size → its[i]? = some v → J i m₁ news₁ → (AllBare s.gens → AllBare gs₁) → Fr g L h₁ (fun y => if y = x then some v else m₁ y) → News g L h₁ (news₁ ++ ot) → (∀ q ∈ news₁, ∀ r ∈ ot, r.1 ≠ q.1) →
      ∀ Jp : Shared → Prop, LpK (TurnB g L s.gens s.drawn s.os ot news₁ (J (i + 1))) Jp → wpAny (model prog w) A (execs body env) (BodyK Jp Q) NoE ⟨h₁, gs₁, s.drawn, tk₁, s.os⟩)
    (done : ∀ m₁ news₁ h₁ tk₁ gs₁, J its.size m₁ news₁ → (AllBare s.gens → AllBare gs₁) → Fr g L h₁ m₁ → News g L h₁ news₁ → Q .next ⟨h₁, gs₁, s.drawn, tk₁, s.os⟩) :
    wpAny (model prog w) A (pyIter (.ref l)) (fun it s₂ => codeAny (model prog w) A (.forLoop (.Name x px) it body [] env) R s₂) NoE s := by
  have hlt : l < s.heap.objs.size := by obtain ⟨_, e, _⟩ := hl; exact Heap.lt_size e
  refine wpAny_pyIter_list hl ?_
  refine for_walk2 (Walks.list hh s.heap.objs.size l (Nat.ne_of_lt hlt) its) J (F.push _) (fun q hq => ⟨Heap.get?_push_of_some _ (N q hq).1, (N q hq).2⟩) ⟨⟨_, Heap.get?_push_size _ rfl, rfl, rfl⟩, hl.push _⟩ ?_ ?_ ?_ (fun i h st b hb => ?_) hJ hx hR turn done
  · simp only [List.mem_cons, List.not_mem_nil, or_false, not_or]
    exact ⟨Nat.ne_of_lt F.ns.lt, Ne.symm hlL⟩
  · intro q hq
    simp only [List.mem_cons, List.not_mem_nil, or_false, not_or]
    exact ⟨Nat.ne_of_lt (Heap.lt_size (N q hq).1), hln q hq⟩
  · intro b hb
    rw [List.mem_singleton.mp hb]
    exact Heap.get?_none_of_le (Nat.le_trans F.above (Nat.le_of_lt F.ns.lt))
  · refine memc hb ?_ fun b hb => ?_
    · obtain ⟨o, e, _⟩ := st.1; exact ⟨o, e⟩
    · rw [List.mem_singleton.mp hb]; obtain ⟨o, e, _⟩ := st.2; exact ⟨o, e⟩

theorem for_range2 {x : Str} {px : Pos} {r : Addr} {a b c : Int} {n : Nat} {t u v : Tok} (J : Nat → (Str → Option Value) → List (Addr × Obj) → Prop) (hh : A.handled = none)
    (F : Fr g L s.heap m) (N : News g L s.heap news) (hr : IsRange s.heap r a b c t u v) (hsm : Builtin.Range.small a b c = true) (hn : Builtin.Range.rangeSize a b c = (n : Int)) (hJ : J 0 m news) (hx : Stores prog w A g L env x px) (hR : ∀ f s', Q f s' → R (.ok f) s')
    (turn : ∀ i t m₁ news₁ ot h₁ tk₁ gs₁, i < n → J i m₁ news₁ → (AllBare s.gens → AllBare gs₁) → Fr g L h₁ (fun y => if y = x then some (.int (a + (i : Int) * c) t) else m₁ y) → News g L h₁ (news₁ ++ ot) → (∀ q ∈ news₁, ∀ r ∈ ot, r.1 ≠ q.1) →
      ∀ Jp : Shared → Prop, LpK (TurnB g L s.gens s.drawn s.os ot news₁ (J (i + 1))) Jp → wpAny (model prog w) A (execs body env) (BodyK Jp Q) NoE ⟨h₁, gs₁, s.drawn, tk₁, s.os⟩)
    (done : ∀ m₁ news₁ h₁ tk₁ gs₁, J n m₁ news₁ → (AllBare s.gens → AllBare gs₁) → Fr g L h₁ m₁ → News g L h₁ news₁ → Q .next ⟨h₁, gs₁, s.drawn, tk₁, s.os⟩) :
    wpAny (model prog w) A (pyIter (.ref r)) (fun it s₂ => codeAny (model prog w) A (.forLoop (.Name x px) it body [] env) R s₂) NoE s := by
  refine wpAny_pyIter_range hr hsm ?_
  refine for_walk2 (Walks.range hh s.heap.objs.size a c n) J (F.push _) (fun q hq => ⟨Heap.get?_push_of_some _ (N q hq).1, (N q hq).2⟩) (by rw [hn]; simpa using Heap.get?_push_size _ rfl) ?_ ?_ ?_ (fun i h st b hb => ?_) hJ hx hR ?_ done
  · simp only [List.mem_cons, List.not_mem_nil, or_false]
    exact Nat.ne_of_lt F.ns.lt
  · intro q hq
    simp only [List.mem_cons, List.not_mem_nil, or_false]
    exact Nat.ne_of_lt (Heap.lt_size (N q hq).1)
  · intro b hb
    rw [List.mem_singleton.mp hb]
    exact Heap.get?_none_of_le (Nat.le_trans F.above (Nat.le_of_lt F.ns.lt))
  · rw [List.mem_singleton.mp hb]
    exact ⟨_, st⟩
  · rintro i v m₁ news₁ ot h₁ tk₁ gs₁ hin ⟨t, rfl⟩ hJ hb F N ho
    exact turn i t m₁ news₁ ot h₁ tk₁ gs₁ hin hJ hb F N ho
end
-- S2
theorem count_pos (l p : List Nat) (hp : 1 ≤ p.length) : Txt.count (mkS l) (mkS p) = (((posOf p 0 0 l).length : Nat) : Int) := by
  show (((Builtin.Str.occurrences (mkS l) (mkS p) 0 (mkS l).length ((mkS l).length + 1)).length : Nat) : Int) = _
  rw [occ_pos l p hp]
theorem repl_none {p z : List Nat} : ∀ (l : List Nat) (i : Nat), posOf p i 0 l = [] → replL p z 0 l = l
  | [], _, _ => rfl
  | c :: r, i, h => by
    rw [posOf] at h
    rw [replL]
    by_cases hc : p.isPrefixOf (c :: r) = true
    · rw [if_pos hc] at h; cases h
    · rw [if_neg hc] at h ⊢
      rw [repl_none r (i + 1) h]
theorem replaced (l p z : List Nat) (hp : 1 ≤ p.length) : Txt.replace (mkS l) (mkS p) (mkS z) = mkS (replL p z 0 l) := by
  unfold Txt.replace
  have e : (mkS p).length = p.length := rfl
  rw [occ_pos l p hp, e, replace_pos l p z hp]
  split
  · rename_i h
    have h2 : posOf p 0 0 l = [] := by
      rw [Bool.or_eq_true] at h
      rcases h with h | h
      · simpa using h
      · rw [Bool.and_eq_true] at h
        have := beq_iff_eq.mp h.1
        exact ar259 hp this
    rw [repl_none l 0 h2]
  · rfl
theorem repl_len (p : List Nat) : ∀ (l : List Nat) (sk : Nat), (replL p [] sk l).length ≤ l.length
  | [], _ => by simp [replL]
  | c :: r, 0 => by
    rw [replL]
    split
    · rw [List.nil_append]; exact Nat.le_succ_of_le (repl_len p r _)
    · simpa using repl_len p r 0
  | c :: r, k + 1 => by rw [replL]; exact Nat.le_succ_of_le (repl_len p r k)
theorem repl_less {p : List Nat} (hp : 1 ≤ p.length) : ∀ (l : List Nat) (i : Nat), posOf p i 0 l ≠ [] → (replL p [] 0 l).length + 1 ≤ l.length
  | [], _, h => absurd rfl h
  | c :: r, i, h => by
    rw [posOf] at h
    rw [replL]
    by_cases hc : p.isPrefixOf (c :: r) = true
    · rw [if_pos hc]
      rw [List.nil_append]; exact Nat.succ_le_succ (repl_len p r _)
    · rw [if_neg hc] at h ⊢
      have := repl_less hp r (i + 1) h
      simp; omega
-- D4
theorem gen_pos {α : Type} {M : Model} {A : Around} {E : Value → Shared → Prop} {t : Sem α} {Q : α → Shared → Prop} {h : Heap} {g : Array GenState} {d : Drawn} {X : Nat} {os : OsState} (k : ∀ tk : Nat, 0 < tk → wpAny M A t Q E ⟨h, g, d, tk, os⟩) (hX : 0 < X) : wpAny M A t Q E ⟨h, g, d, X, os⟩ := k X hX
local macro_rules | `(tactic| walk_at "execs cons") => `(tactic| (k_here; (refine' gen_pos ?_ ?z; (case z => (fail_if_success assumption); (try dsimp only); omega); intro tk htk)))
theorem std4_0 {x0 x1 x2 x3 x4 x5} (h : wpAny x0 x1 (call (Value.builtin "str.join") x2) x3 x4 x5) : wpAny x0 x1 (call (Value.builtin "str.join") x2) x3 x4 x5 := h
theorem std4_1 {x0 x1 x2 x3 x4 x5} (h : wpAny x0 x1 (call (Value.builtin "str.replace") x2) x3 x4 x5) : wpAny x0 x1 (call (Value.builtin "str.replace") x2) x3 x4 x5 := h
local macro_rules | `(tactic| walk_at "mine stop") => `(tactic| with_reducible first | refine std4_0 ?_ | refine std4_1 ?_)
section
variable {w : World} {pp : Program} {loose : List Str} {mg mb : Str → Option Value} {h₀ : Heap} {dp un : Nat} {fr : Option (List Env)} {gd : Option (List Code)} {s : Shared} {P : Result → Shared → Prop} {Q : Value → Shared → Prop}

noncomputable def signsOf (bs : List Nat) : List Nat := (List.range (rowLen bs)).map fun p => if p ∈ bs then 40 else 41
noncomputable def struckGo : Nat → List Nat → List Nat
  | 0, _ => []
  | k + 1, l => if (posOf [40, 41] 0 0 l).length = 0 then [] else (posOf [40, 41] 0 0 l).length :: struckGo k (replL [40, 41] [] 0 l)
noncomputable def struckP (bs : List Nat) : List Nat := struckGo (rowLen bs) (signsOf bs)

inductive StruckI (bs : List Nat) (s : Shared) (g : Heap) (L ct : Addr) (n : Nat) (s' : Shared) : Prop
  | mk (l dn : List Nat) (h : Heap) (tk : Nat) (m : Str → Option Value) (ys : List Value) (k : Nat) (t : Tok) (h1 : l.length ≤ n) (h2 : n ≤ rowLen bs) (e : s' = { s with heap := h, toks := tk }) (F : Fr g L h m) (N : News g L h [(ct, listOf ys.toArray k)]) (hy : IntsAre ys (intsOf dn))
    (h3 : dn.length + n ≤ rowLen bs) (h4 : dn ++ struckGo n l = struckP bs) (ms : m (Str.ofString "signs") = some (.str (mkS l) t)) (mc : m (Str.ofString "counts") = some (.ref ct))
set_option maxHeartbeats 2000000 in
theorem struck_spec {ab : Addr} {vb : List Value} {bs : List Nat}
    (k₀ : h₀.StaysIn s.heap) (X : (hd.heap_39 w.params).In h₀) (T : TopRead pp loose mg mb h₀) (hroom : dp < recursionLimit)
    (hl : s.heap.IsList ab vb.toArray) (hi : IntsAre vb (intsOf bs)) (hne : bs ≠ []) (hb : ∀ b ∈ bs, b < 100) (hbl : bs.length < 10)
    (h : ∀ h' tk a vs n, s.heap.StaysIn h' → s.heap.get? a = none → h'.get? a = some (listOf vs.toArray n) → IntsAre vs (intsOf (struckP bs)) → Q (.ref a) { s with heap := h', toks := tk }) :
    wpAny (model PR w) (AA dp un fr gd) (call (.ref 164) [.ref ab]) Q NoE s := by
  refine' enterC (binds := [(Str.ofString "balls", .ref ab)]) [] k₀ X T (fun _ q => nomatch q) ?ho ?hcd ?hroom ?hb ?hkind ?hnd ?_ ?c2 ?c3 ?c4
  case ho => k_is
  case hcd => k_is
  case hroom => exact hroom
  case hb => exact BindsTo.of_eq rfl
  case hkind => rfl
  case hnd => decide
  case c2 => rfl
  case c3 => rfl
  case c4 => rfl
  intro g L h₁ tk cells kg bg og F N CA Xg Tg lg
  have hlg : g.IsList ab vb.toArray := stays_list (But.nil bg) hl
  have hvb : vb.length = bs.length := hi.length.trans (List.length_map ..)
  have fin : ∀ h' tk a vs n, g.StaysIn h' → g.get? a = none → h'.get? a = some (listOf vs.toArray n) → IntsAre vs (intsOf (struckP bs)) → Q (.ref a) { s with heap := h', toks := tk } :=
    fun h' tk a vs n k ha he hv => h h' tk a vs n (fun b o e => k b o (bg.nil b o e)) (by
      cases e : s.heap.get? a with
      | none => rfl
      | some o => have := bg.nil a o e; rw [ha] at this; cases this) he hv
  clear k₀ X T kg og hl h bg
  k_cells CA
  simp only [List.append_nil, List.cons_append, List.nil_append] at N
  show wpAny _ _ _ _ _ _
  k_fold
  walk_at "mine go"
  rename Obj => co
  rename co.data = _ => hco
  refine LCg.ListComp_U (F₀ := F) (by with_unfolding_all rfl) (by decide) (by rfl) (by decide) (by rfl) ?_
  walk_at "mine go"
  refine item_last (stays_list F.keep hlg) hi hne fun t1 => ?_
  walk_at "mine go"
  rename Fr _ _ _ _ => F2
  rename News _ _ _ _ => N2
  rename IsRange _ _ _ _ _ _ _ _ => hr
  have hlast : bs.getLastD 0 < 100 := by
    rw [List.getLastD_eq_getLast?]
    cases e : bs.getLast? with
    | none => exact absurd (List.getLast?_eq_none_iff.mp e) hne
    | some b => exact hb b (List.mem_of_getLast? e)
  have hrl : rowLen bs = bs.getLastD 0 + 1 + bs.length := rfl
  have hvs : ((intsOf bs).length : Int) = bs.length := by unfold intsOf; rw [List.length_map]
  rw [hvs] at hr
  refine LCg.CompSrc.range (n := rowLen bs) rfl F2 N2 hr (small_one (by decide) (by decide) (by exact ar43) (by exact ar44 hbl hlast)) (by rw [rangeSize_nat]; exact ar45 hrl) (by rw [sizeLine_eq]; exact ar46 hbl hlast hrl) fun g' => ?_
  refine comp_own (fun i ys news => news = [(L + 1, co)] ∧ StrsAre ys ((List.range i).map fun p => mkS [if p ∈ bs then 40 else 41])) ?_ ?_ _ 0 [] _ (Nat.zero_add _) ⟨rfl, .nil⟩
  · rintro i ys news hin ⟨rfl, hys⟩ v I oI C oC D m₂ h3 tk3 ⟨t3, rfl⟩ hC hx F3 N3 off ne
    rw [Int.zero_add] at hx
    walk_at "mine go"
    · rename ((intsOf bs).any _) = true => hm
      have hin' : i ∈ bs := by
        obtain ⟨x, hx, hxe⟩ := List.any_eq_true.mp hm
        obtain ⟨y, hy, rfl⟩ := List.mem_map.mp hx
        have e : y = i := by have := beq_iff_eq.mp hxe; exact ar69 this
        exact e ▸ hy
      rename Fr _ _ _ _ => F4
      rename News _ _ _ _ => N4
      exact LCg.CompEnd.intro F4 N4 [(L + 1, co)] (fun p hp => hp) off trivial ⟨rfl, by rw [List.range_succ, List.map_append, List.map_cons, List.map_nil, if_pos hin']; exact strs_snoc hys⟩
    · rename ((intsOf bs).any _) = false => hm
      have hin' : i ∉ bs := fun q => by
        have : (intsOf bs).any (fun x => x == (i : Int)) = true := List.any_eq_true.mpr ⟨((i : Nat) : Int), List.mem_map_of_mem q, by simp⟩
        rw [this] at hm; cases hm
      rename Fr _ _ _ _ => F4
      rename News _ _ _ _ => N4
      exact LCg.CompEnd.intro F4 N4 [(L + 1, co)] (fun p hp => hp) off trivial ⟨rfl, by rw [List.range_succ, List.map_append, List.map_cons, List.map_nil, if_neg hin']; exact strs_snoc hys⟩
  · rintro ys news ⟨rfl, hys⟩
    unfold LCg.FinE
    intro D h5 tk5 F5 N5 o1
    clear hr F2 N2
    walk_at "mine go"
    have hys2 : StrsAre ys (((List.range (rowLen bs)).map fun p => [if p ∈ bs then 40 else 41]).map mkS) := by rw [List.map_map]; exact hys
    have hfl : ((List.range (rowLen bs)).map fun p => [if p ∈ bs then 40 else 41]).flatten = signsOf bs := by
      unfold signsOf
      generalize List.range (rowLen bs) = r
      induction r with
      | nil => rfl
      | cons a r ih => rw [List.map_cons, List.map_cons, List.flatten_cons, ih]; rfl
    refine join_own (vs := ys) (acc := (List.range (rowLen bs)).map fun p => [if p ∈ bs then 40 else 41]) (B := 1) ⟨_, (N5 (D, _) (.head _)).1, rfl, _, rfl⟩ hys2 (fun l hl => by obtain ⟨p, _, rfl⟩ := List.mem_map.mp hl; exact Nat.le_refl _) (by rw [List.length_map, List.length_range]; exact ar70 hbl hlast hrl) fun t6 k6 => ?_
    rw [hfl]
    walk_at "mine go"
    rename Fr _ _ _ _ => F7
    rename News _ _ _ _ => N7
    rename_i ct _ _ _ _ _
    have N8 : News g L _ [(ct, listOf ([] : List Value).toArray 0)] := fun q hq => N7 q (by rw [List.mem_singleton.mp hq]; exact .head _)
    have hsl : (signsOf bs).length = rowLen bs := by unfold signsOf; rw [List.length_map, List.length_range]
    refine while_own (StruckI bs s g L ct)
      (rowLen bs) ⟨signsOf bs, [], _, _, _, [], 0, _, Nat.le_of_eq hsl, Nat.le_refl _, rfl, F7, N8, .nil, by simp, rfl, rfl, rfl⟩ ?_
    clear F7 N7 N8 hys hys2 hvs hfl
    rintro n s' ⟨l, dn, h8, tk8, m8, ys8, k8, t8, hln, hnr, rfl, F8, N8, hys8, hdn, hgo, ms, mc⟩
    have hyl := hys8.length
    unfold intsOf at hyl
    rw [List.length_map] at hyl
    have hsz : ys8.length ≤ sizeLine := by rw [sizeLine_eq]; exact ar71 hbl hlast hrl hdn hyl
    walk_at "mine go"
    · rename (List.isEmpty _) = true => he
      have he2 : (posOf [40, 41] 0 0 l).isEmpty = true := by rw [← found_pos l [40, 41] (by decide)]; exact he
      have he3 : posOf [40, 41] 0 0 l = [] := by simpa using he2
      have hg0 : struckGo n l = [] := by
        cases n with
        | zero => rfl
        | succ n => rw [struckGo, he3]; rfl
      rw [hg0, List.append_nil] at hgo
      try dsimp only
      exact fin _ _ _ _ _ F8.keep (N8 (ct, _) (.head _)).2.2 (N8 (ct, _) (.head _)).1 (hgo ▸ hys8)
    · rename (List.isEmpty _) = false => he
      have he2 : (posOf [40, 41] 0 0 l).isEmpty = false := by rw [← found_pos l [40, 41] (by decide)]; exact he
      rename Fr _ _ _ _ => F9
      rename News _ _ _ _ => N9
      have hnn : posOf [40, 41] 0 0 l ≠ [] := fun q => by rw [q] at he2; cases he2
      have hcnt : Txt.count (mkS l) (Str.ofString "()") = (((posOf [40, 41] 0 0 l).length : Nat) : Int) := count_pos l [40, 41] (by decide)
      have hrep : Txt.replace (mkS l) (Str.ofString "()") (Str.ofString "") = mkS (replL [40, 41] [] 0 l) := replaced l [40, 41] [] (by decide)
      have hrl := repl_less (p := [40, 41]) (by decide) l 0 hnn
      refine SC.replaceW (by refine neN ?_; omega) (by refine neN ?_; exact ar72) (by refine neN ?_; exact Nat.ne_of_lt (Nat.lt_add_of_pos_right (by decide))) (by decide) (by show l.length ≤ 1048576; omega) (by decide) fun t10 k10 => ?_
      rw [hrep]
      rw [hcnt, List.push_toArray] at N9
      walk_at "mine go"
      rename Fr _ _ _ _ => F10
      rename News _ _ _ _ => N10
      obtain ⟨n, rfl⟩ : ∃ k, n = k + 1 := ⟨n - 1, by exact ar73 hln hrl⟩
      rw [struckGo, if_neg (fun q => hnn (List.length_eq_zero_iff.mp q))] at hgo
      refine ⟨n, Nat.lt_succ_self _, replL [40, 41] [] 0 l, dn ++ [(posOf [40, 41] 0 0 l).length], _, _, _, _, _, _, by exact ar74 hrl hln, by exact (Nat.le_of_lt (Nat.lt_of_lt_of_le (Nat.lt_add_of_pos_right (by decide)) hnr)), rfl, F10, N10, ?_, by rw [List.length_append, List.length_singleton]; exact ar75 hdn, by rw [List.append_assoc]; exact hgo, rfl, mc⟩
      unfold intsOf
      rw [List.map_append]
      exact ints_append hys8 (.cons _ _ .nil)
end
-- E1
structure Hid (P : Prop) : Prop where
  out : P
/-- the lambda's code object -/
def CodeAt (h : Heap) (cr : Addr) : Prop := ∃ oc fs t0, h.get? cr = some oc ∧ oc.data = .fields fs ∧ fs[1]? = some (.str (Str.ofString "_law_lexer" ++ ".<locals>." ++ Str.ofString "<lambda>") t0)
theorem ste1_0 {x0 x1 x2 x3 x4 x5 x6 x7 x8 x9} (h : wpAny x0 x1 (subscriptTail x2 x3 (Value.ref x4) (Value.int x5 x6)) x7 x8 x9) : wpAny x0 x1 (subscriptTail x2 x3 (Value.ref x4) (Value.int x5 x6)) x7 x8 x9 := h
local macro_rules | `(tactic| walk_at "mine stop") => `(tactic| with_reducible refine ste1_0 ?_)
section
variable {w : World} {pp : Program} {loose : List Str} {mean : ExcName → Option Value} {mg mb : Str → Option Value} {h₀ : Heap} {dp un : Nat} {fr : Option (List Env)} {gd : Option (List Code)} {s : Shared} {P : Result → Shared → Prop} {Q : Value → Shared → Prop}

noncomputable def lineGo (bs : List Nat) : List (List Nat) → Nat → List (List Nat) → List (List Nat × Nat) → List (List Nat × Nat) × List (List Nat)
  | [], _, q, acc => (acc, q)
  | word :: r, p, q, acc => if p ∈ bs then lineGo bs r (p + 1) (q ++ [word]) acc else match q with
    | [] => lineGo bs r (p + 1) q acc
    | w :: q' => lineGo bs r (p + 1) q' (acc ++ [(w, p)])
noncomputable def lineP (bs : List Nat) (row : List (List Nat)) : List (List Nat × Nat) × List (List Nat) := lineGo bs row 0 [] []
theorem lineGo_in {bs : List Nat} {w : List Nat} {r q : List (List Nat)} {acc : List (List Nat × Nat)} {i : Nat} (h : i ∈ bs) : lineGo bs (w :: r) i q acc = lineGo bs r (i + 1) (q ++ [w]) acc := by
  unfold lineGo
  rw [if_pos h]
  cases r <;> rfl
theorem lineGo_nil {bs : List Nat} {w : List Nat} {r : List (List Nat)} {acc : List (List Nat × Nat)} {i : Nat} (h : i ∉ bs) : lineGo bs (w :: r) i [] acc = lineGo bs r (i + 1) [] acc := by
  unfold lineGo
  rw [if_neg h]
  cases r <;> rfl
theorem lineGo_cons {bs : List Nat} {w v : List Nat} {r q : List (List Nat)} {acc : List (List Nat × Nat)} {i : Nat} (h : i ∉ bs) : lineGo bs (w :: r) i (v :: q) acc = lineGo bs r (i + 1) q (acc ++ [(v, i)]) := by
  unfold lineGo
  rw [if_neg h]
  cases r <;> rfl
theorem mem_any {bs : List Nat} {i : Nat} (hm : ((intsOf bs).any fun x => x == (i : Int)) = true) : i ∈ bs := by
  obtain ⟨x, hx, hxe⟩ := List.any_eq_true.mp hm
  obtain ⟨y, hy, rfl⟩ := List.mem_map.mp hx
  have e : y = i := by have := beq_iff_eq.mp hxe; exact ar69 this
  exact e ▸ hy
theorem not_mem_any {bs : List Nat} {i : Nat} (hm : ((intsOf bs).any fun x => x == (i : Int)) = false) : i ∉ bs := fun q => by
  have : (intsOf bs).any (fun x => x == (i : Int)) = true := List.any_eq_true.mpr ⟨((i : Nat) : Int), List.mem_map_of_mem q, by simp⟩
  rw [this] at hm; cases hm
theorem lenS {q : List (List Nat)} {w : List Nat} {t : Tok} : some (Value.int ((q.length : Int) + 1) t) = some (.int (((q ++ [w]).length : Nat) : Int) t) := by rw [List.length_append]; rfl
theorem lenP {n : Nat} {t : Tok} : some (Value.int ((n : Int) + 1 - 1) t) = some (.int (n : Int) t) := by congr 2; exact ar76
theorem allLt_mem {d : Addr} : ∀ {l : List (Addr × Obj)}, AllLt d l → ∀ p ∈ l, @LT.lt Nat _ p.1 d
  | [], _, _, h => nomatch h
  | _ :: _, ⟨h, r⟩, p, hp => by
    refine memc hp ?_ fun p hp => ?_
    · exact h
    · exact allLt_mem r p hp
theorem swapM {x : Addr × Obj} {a b : List (Addr × Obj)} {q : Addr × Obj} (h : q ∈ x :: (b ++ a)) : q ∈ x :: a ++ b := by
  rcases List.mem_cons.mp h with rfl | h
  · exact .head _
  · refine .tail _ (List.mem_append.mpr ?_)
    exact (List.mem_append.mp h).symm
theorem sameA {w : World} {R : LexRef} {cs cs' : List Nat} {l l' : Int} {pbs pbs' : List Str} {nl nl' r : List (Addr × Obj)} {a : Addr} {o o' : Obj} {q : Addr × Obj} (x : LexAt w R cs l pbs nl) (x' : LexAt w R cs' l' pbs' nl') (hq : q ∈ (a, o') :: (nl' ++ r)) : q.1 ∈ ((a, o) :: (nl ++ r)).map (·.1) := by
  refine memc hq ?_ fun q hq => ?_
  · exact .head _
  · refine .tail _ ?_
    rw [List.map_append, x.addr]
    rcases List.mem_append.mp hq with hq | hq
    · exact List.mem_append_left _ (x'.mem q hq)
    · exact List.mem_append_right _ (List.mem_map_of_mem hq)
noncomputable def pairD (x : List Nat × Nat) : Dat := .tuple [.str (mkS x.1), .int (x.2 : Int)]

inductive LineI (w : World) (R : LexRef) (laid ab ar lx cr : Addr) (bs : List Nat) (row : List (List Nat)) (acc : List (List Nat × Nat)) (i : Nat) (m : Str → Option Value) (news : List (Addr × Obj)) : Prop
  | mk (vs8 : List Value) (k8 : Nat) (tups nl : List (Addr × Obj)) (q : List (List Nat)) (acc1 : List (List Nat × Nat)) (tw : Tok) (e : news = (laid, listOf vs8.toArray k8) :: (nl ++ (tups ++ [(106, tabObj (lexTab cr))]))) (hl : LexAt w R [122] 1 (q.map mkS) nl) (hD : DatAll tups vs8 (acc1.map pairD))
    (hg : lineGo bs (row.drop i) i q acc1 = (acc, [])) (ha : acc1.length ≤ i) (hq : q.length ≤ i) (ht : ∀ p ∈ tups, p.1 ≠ laid ∧ p.1 ∉ LexRef.addrs R ∧ p.1 ≠ 106)
    (ml : m (Str.ofString "line") = some (.ref lx)) (ma : m (Str.ofString "laid") = some (.ref laid)) (mb : m (Str.ofString "balls") = some (.ref ab)) (mr : m (Str.ofString "row") = some (.ref ar)) (mw : m (Str.ofString "waiting") = some (.int ((q.length : Nat) : Int) tw))
set_option maxHeartbeats 4000000 in
theorem line_spec {ab ar cr : Addr} {vb vr : List Value} {bs : List Nat} {row : List (List Nat)} {acc : List (List Nat × Nat)}
    (k₀ : h₀.StaysIn s.heap) (X : (hd.heap_39 w.params).In h₀) (T : Hid (Top pp loose mean mg mb h₀)) (hroom : dp + 3 < recursionLimit) (C : CodeHd h₀ 110 106)
    (hT : s.heap.get? 106 = some (tabObj (lexTab cr))) (hT0 : h₀.get? 106 = none) (hc : CodeAt s.heap cr) (hc0 : h₀.get? cr = none)
    (hl : s.heap.IsList ab vb.toArray) (hl0 : h₀.get? ab ≠ none) (hi : IntsAre vb (intsOf bs)) (hl2 : s.heap.IsList ar vr.toArray) (hl20 : h₀.get? ar ≠ none) (hi2 : StrsAre vr (row.map mkS)) (hbl : bs.length < 10) (hrl : row.length < 100) (hP : lineP bs row = (acc, []))
    (h : ∀ h' tk g' a vs n tups, But [cr] s.heap h' → CodeAt h' cr → (AllBare s.gens → AllBare g') → s.heap.get? a = none → h'.get? a = some (listOf vs.toArray n) → (∀ q ∈ tups, h'.get? q.1 = some q.2 ∧ s.heap.get? q.1 = none) →
      DatAll tups vs (acc.map pairD ++ [pairD ([122], row.length)]) → Q (.ref a) { s with heap := h', toks := tk, gens := g' }) :
    wpAny (model PR w) (AA dp un fr gd) (call (.ref 149) [.ref ab, .ref ar]) Q NoE s := by
  refine byG fun G9 k9 => ?_; rcases hc with ⟨oc, fs, t0, hcg, hod, hof⟩; all_goals (refine k9 ?_; clear k9 G9)
  refine' enterM (binds := [(Str.ofString "balls", .ref ab), (Str.ofString "row", .ref ar)]) [(cr, oc), (106, tabObj (lexTab cr))] k₀ X (topRead_of T.out) ?hm ?ho ?hcd ?hroom ?hb ?hloc ?_ ?c2 ?c3 ?c4 ?c5
  case hm => exact List.forall_mem_cons.mpr ⟨⟨hcg, hc0⟩, List.forall_mem_cons.mpr ⟨⟨hT, hT0⟩, (fun _ q => nomatch q)⟩⟩
  case ho => k_is
  case hcd => k_is
  case hroom => show dp < recursionLimit; exact (Nat.lt_trans (Nat.lt_add_of_pos_right (by decide)) hroom)
  case hb => exact BindsTo.of_eq rfl
  case hloc => exact locs rfl
  case c2 => rfl
  case c3 => rfl
  case c4 => rfl
  case c5 => decide
  intro g L h₁ kg bg og F N Xg Tg
  have TT : Hid (Top pp loose mean mg mb g) := ⟨T.out.keeps kg⟩
  have CC : Hid (CodeHd g 110 106) := ⟨C.keeps kg⟩
  have hb0 : ∀ {a : Addr} {its : Array Value}, s.heap.IsList a its → h₀.get? a ≠ none → g.IsList a its := fun {a its} ⟨o, ho, r⟩ hn => by
    refine ⟨o, bg a o (fun q => ?_) ho, r⟩
    rcases List.mem_cons.mp q with e | q
    · rw [e] at hn; exact hn hc0
    · have e := List.mem_singleton.mp q
      rw [e] at hn; exact hn hT0
  have hlg : g.IsList ab vb.toArray := hb0 hl hl0
  have hlg2 : g.IsList ar vr.toArray := hb0 hl2 hl20
  have hvb : vb.length = bs.length := hi.length.trans (List.length_map ..)
  have hvr : vr.length = row.length := hi2.length.trans (List.length_map ..)
  have hcr : cr ≠ 106 := fun e => by
    rw [e, hT] at hcg
    have := Option.some.inj hcg
    rw [← this] at hod
    cases hod
    simp [lexTab, rawInt] at hof
  have fin : ∀ h' tk g' a vs n tups, g.StaysIn h' → h'.get? 106 = some (tabObj (lexTab cr)) → CodeAt h' cr → (AllBare s.gens → AllBare g') → g.get? a = none → a ≠ cr → a ≠ 106 → h'.get? a = some (listOf vs.toArray n) → (∀ q ∈ tups, h'.get? q.1 = some q.2 ∧ g.get? q.1 = none ∧ q.1 ≠ cr ∧ q.1 ≠ 106) →
      DatAll tups vs (acc.map pairD ++ [pairD ([122], row.length)]) → Q (.ref a) { s with heap := h', toks := tk, gens := g' } := by
    intro h' tk g' a vs n tups k1 k2 k3 k4 k5 k6 k7 k8 k9 k10
    have fresh : ∀ b, g.get? b = none → b ≠ cr → b ≠ 106 → s.heap.get? b = none := fun b e1 e2 e3 => by
      cases e : s.heap.get? b with
      | none => rfl
      | some o =>
        have := bg b o (fun q => by
          rcases List.mem_cons.mp q with e | q
          · exact e2 e
          · exact e3 (List.mem_singleton.mp q)) e
        rw [e1] at this; cases this
    refine h h' tk g' a vs n tups (fun b o hb e => ?_) k3 k4 (fresh a k5 k6 k7) k8 (fun q hq => ⟨(k9 q hq).1, fresh _ (k9 q hq).2.1 (k9 q hq).2.2.1 (k9 q hq).2.2.2⟩) k10
    have hbc : b ≠ cr := fun q => hb (by rw [q]; exact .head _)
    by_cases h6 : b = 106
    · rw [h6] at e ⊢; rw [hT] at e; rw [← e]; exact k2
    · exact k1 b o (bg b o (fun q => by
          rcases List.mem_cons.mp q with e | q
          · exact hbc e
          · exact h6 (List.mem_singleton.mp q)) e)
  clear T C k₀ X hT hT0 hc0 hl hl0 hl2 hl20 h kg bg og hcg hb0
  show wpAny _ _ _ _ _ _
  k_fold
  walk_at "mine go"
  refine lexer_hit F.keep Xg TT.out (show dp + 1 + 2 < _ from hroom) CC.out (N (106, _) (.tail _ (.head _))).1 (N (106, _) (.tail _ (.head _))).2.2 (N (cr, _) (.head _)).1 (N (cr, _) (.head _)).2.2 hod hof (by decide) fun h2 tk2 R nl k2 hR hL0 hn2 hnf => ?_
  have hL : LexAt w R [122] 1 [] nl := hL0
  clear hL0
  have F2 := fr_stays F k2
  have N2 : News g L h2 (nl ++ [(106, tabObj (lexTab cr))]) := fun q hq => by
    rcases List.mem_append.mp hq with hq | hq
    · refine ⟨hn2 q hq, ?_⟩
      rcases hnf q hq with e | e
      · rw [e]; exact (N (cr, oc) (.head _)).2
      · refine ⟨fun e2 => ?_, ?_⟩
        · refine byG fun G9 k9 => ?_; rcases F.ns with ⟨o, es, ep, ho, _⟩; all_goals (refine k9 ?_; clear k9 G9)
          dsimp only at e
          rw [e2] at e; rw [e] at ho; cases ho
        · cases e3 : g.get? q.1 with
          | none => rfl
          | some o => have := F.keep _ _ e3; rw [e] at this; cases this
    · rw [List.mem_singleton.mp hq]; exact ⟨k2 _ _ (N (106, _) (.tail _ (.head _))).1, (N (106, _) (.tail _ (.head _))).2⟩
  have h106 : 106 ∉ R.addrs := fun q => by
    rw [← hL.addr] at q
    obtain ⟨r, hr, e⟩ := List.mem_map.mp q
    rcases hnf r hr with e2 | e2
    · exact hcr (e2.symm.trans e)
    · dsimp only at e2
      rw [e, (N (106, _) (.tail _ (.head _))).1] at e2; cases e2
  clear F N hn2 hnf k2 hod hof
  refine byG fun G9 k9 => ?_; rcases R with ⟨cell, sg, std, st, cr2, fn, lxd, lx, pb⟩; all_goals (refine k9 ?_; clear k9 G9)
  have hR2 : cr = cr2 := hR.symm
  subst hR2
  clear hR
  have hL' := hL
  refine byG fun G9 k9 => ?_; rcases hL with ⟨vs, us, n1, n2, t1, t2, t3, t4, t5, t6, u1, u2, u3, u4, u5, u6, u7, tq, pm, ctv, pb0, oc2, co, fs2, hord, hv, hu, hod, hof, hco, rfl⟩; all_goals (refine k9 ?_; clear k9 G9)
  dsimp only [List.cons_append, List.nil_append] at N2
  have ho := hord
  refine byG fun G9 k9 => ?_; rcases ho with ⟨o1, o2, o3, o4, o5, o6, o7, o8, o9⟩; all_goals (refine k9 ?_; clear k9 G9)
  dsimp only at o1 o2 o3 o4 o5 o6 o7 o8 o9
  walk_at "mine go"
  refine wpAny_For ?_
  walk_at "mine go"
  rename Fr _ _ _ _ => F3
  rename News _ _ _ _ => N3
  rename IsRange _ _ _ _ _ _ _ _ => hr
  rename_i laid _ l3 _ _ _ _ _ _ _ _ _ _ _ _ _ _ _
  rw [hvr] at hr
  cases hu
  have hlR : laid ∉ LexRef.addrs ⟨cell, sg, std, st, cr, fn, lxd, lx, pb⟩ := by
    simp only [LexRef.addrs, List.mem_cons, List.not_mem_nil, or_false, not_or]
    refine ⟨?_, ?_, ?_, ?_, ?_, ?_, ?_, ?_, ?_⟩ <;> (refine neN ?_; (first | exact Nat.ne_of_gt l3.1 | exact Nat.ne_of_gt l3.2.1 | exact Nat.ne_of_gt l3.2.2.1 | exact Nat.ne_of_gt l3.2.2.2.1 | exact Nat.ne_of_gt l3.2.2.2.2.1 | exact Nat.ne_of_gt l3.2.2.2.2.2.1 | exact Nat.ne_of_gt l3.2.2.2.2.2.2.1 | exact Nat.ne_of_gt l3.2.2.2.2.2.2.2.1 | exact Nat.ne_of_gt l3.2.2.2.2.2.2.2.2.1))

  refine for_range2 (n := row.length) (LineI w ⟨cell, sg, std, st, cr, fn, lxd, lx, pb⟩ laid ab ar lx cr bs row acc) rfl
    F3 N3 hr (small_one (by decide) (by decide) (by exact ar77) (by exact ar78 hrl)) (by rw [rangeSize_nat]; exact ar79) ⟨[], 0, [], _, [], [], _, rfl, hL', .nil, hP, Nat.le_refl _, Nat.le_refl _, (fun _ q => nomatch q), rfl, rfl, rfl, rfl, rfl⟩ stores_local (fun _ _ q => q) ?_ ?_
  · rintro i tp m₁ news₁ ot h4 tk4 gs4 hin ⟨vs8, k8, tups, nl8, q8, acc8, tw8, rfl, hL8, hD8, hgo8, hal8, hql8, htu8, ml, ma, mb, mr, mw⟩ hgs F4 N4 hot
    have hmem : ∃ rest, rest = (tups ++ [(106, tabObj (lexTab cr))]) ++ ot := ⟨_, rfl⟩
    obtain ⟨rest, hrest⟩ := hmem
    have N5 : News g L h4 ((laid, listOf vs8.toArray k8) :: (nl8 ++ rest)) := fun p hp => N4 p (by rw [hrest] at hp; simpa [List.append_assoc] using hp)
    have hrl8 : ∀ p ∈ rest, p.1 ≠ laid ∧ p.1 ∉ LexRef.addrs ⟨cell, sg, std, st, cr, fn, lxd, lx, pb⟩ := fun p hp => by
      rw [hrest] at hp
      rcases List.mem_append.mp hp with hp | hp
      · rcases List.mem_append.mp hp with hp | hp
        · exact ⟨(htu8 p hp).1, (htu8 p hp).2.1⟩
        · rw [List.mem_singleton.mp hp]
          exact ⟨by refine neN ?_; dsimp only; exact Nat.ne_of_lt l3.2.2.2.2.2.2.2.2.2, h106⟩
      · refine ⟨hot (laid, _) (.head _) p hp, fun q => ?_⟩
        rw [← hL8.addr] at q
        obtain ⟨r, hr', e⟩ := List.mem_map.mp q
        exact hot r (.tail _ (List.mem_append_left _ hr')) p hp e.symm
    have hro : ∀ p ∈ rest, p.1 ≠ laid := fun p hp => (hrl8 p hp).1
    rw [List.drop_eq_getElem_cons hin] at hgo8
    have e0 : (0 : Int) + (i : Int) * 1 = (i : Int) := by exact ar80
    rw [e0] at F4
    have hd8 : ∀ o : Obj, ∀ q ∈ (laid, o) :: rest, q.1 ∉ LexRef.addrs ⟨cell, sg, std, st, cr, fn, lxd, lx, pb⟩ := fun o q hq => by
      refine memc hq ?_ fun q hq => ?_
      · exact hlR
      · exact (hrl8 q hq).2
    have hfin : ∀ (h9 : Heap) (o : Obj) (nl9 : List (Addr × Obj)), News g L h9 ((laid, o) :: (nl9 ++ rest)) → News g L h9 (((laid, o) :: (nl9 ++ (tups ++ [(106, tabObj (lexTab cr))]))) ++ ot) := fun h9 o nl9 N9 q hq => N9 q (by rw [hrest]; simpa [List.append_assoc] using hq)
    have hL8' := hL8
    refine byG fun G9 k9 => ?_; rcases hL8 with ⟨vs6, us6, n16, n26, a1, a2, a3, a4, a5, a6, b1, b2, b3, b4, b5, b6, b7, tq6, pm6, ctv6, pb06, oc6, co6, fs6, hord6, hv6, hu6, hod6, hof6, hco6, hnl6⟩; all_goals (refine k9 ?_; clear k9 G9)
    have N5x := N5
    rw [hnl6] at N5x
    dsimp only [List.cons_append, List.nil_append] at N5x
    have back : ∀ (h9 : Heap) (o : Obj), News g L h9 ((laid, o) :: (nl8 ++ rest)) → News g L h9 (((laid, o) :: rest) ++ nl8) := fun h9 o N9 q hq => N9 q (by
      rcases List.mem_append.mp hq with hq | hq
      · refine memc hq ?_ fun q hq => ?_
        · exact .head _
        · exact .tail _ (List.mem_append_right _ hq)
      · exact .tail _ (List.mem_append_left _ hq))
    clear N5
    clear N4 F3 N3 hr
    walk_at "mine go"
    · rename ((intsOf bs).any _) = true => hm
      have hib := mem_any hm
      rw [lineGo_in hib] at hgo8
      obtain ⟨tn, htn⟩ := strs_get (i := i) (n := mkS row[i]) hi2 (by simp [hin])
      rename Fr _ _ _ _ => F6
      rename News _ _ _ _ => N6
      refine item_nat (stays_list F6.keep hlg2) (by exact (Nat.lt_trans (Nat.lt_trans hin hrl) (by decide : 100 < 1000000))) htn ?_
      walk_at "mine go"
      have N6' := back _ _ (by rw [hnl6]; exact N6)
      refine push_spec (R := ⟨cell, sg, std, st, cr, fn, lxd, lx, pb⟩) F6.keep Xg Tg (show dp + 1 < _ by exact ar81 hroom) hL8' (fun p hp => ⟨(N6' p (List.mem_append_right _ hp)).1, (N6' p (List.mem_append_right _ hp)).2.2⟩) (by rw [List.length_map]; exact (Nat.lt_trans (Nat.lt_trans (Nat.lt_of_le_of_lt hql8 hin) hrl) (by decide : 100 < 1000))) fun h7 tk7 nl7 k7 hl7 hn7 => ?_
      obtain ⟨F7, N7⟩ := lex_on F6 N6' hL8' hl7 (hd8 _) k7 hn7
      clear N6 N6' F6
      walk_at "mine go"
      rename Fr _ _ _ _ => F8
      rename News _ _ _ _ => N8
      try dsimp only
      refine ⟨_, _, gs4, _, (laid, listOf vs8.toArray k8) :: (nl7 ++ (tups ++ [(106, tabObj (lexTab cr))])), rfl, hgs, F8, hfin _ _ _ (fun q hq => N8 q (swapM hq)), ?_, vs8, k8, tups, nl7, q8 ++ [row[i]], acc8, _, rfl, by rw [List.map_append]; exact hl7, hD8, hgo8, by exact (Nat.le_of_lt (Nat.lt_of_le_of_lt hal8 (Nat.lt_add_of_pos_right (by decide)))), by rw [List.length_append, List.length_singleton]; exact ar82 hql8, htu8, ml, ma, mb, mr, lenS⟩
      · intro q hq
        left
        exact sameA hL8' hl7 hq
    · rename ((intsOf bs).any _) = false => hm
      have hib := not_mem_any hm
      rename Fr _ _ _ _ => F6
      rename News _ _ _ _ => N6
      cases q8 with
      | nil =>
        rename (_ : Int) < _ => hw
        exact absurd hw (by simp)
      | cons w0 q8 =>
      rw [lineGo_cons hib] at hgo8
      have N6' := back _ _ (by rw [hnl6]; exact N6)
      refine tokpush_spec (R := ⟨cell, sg, std, st, cr, fn, lxd, lx, pb⟩) F6.keep Xg Tg (show dp + 1 < _ by exact ar81 hroom) hL8' (fun p hp => ⟨(N6' p (List.mem_append_right _ hp)).1, (N6' p (List.mem_append_right _ hp)).2.2⟩) (by rw [List.length_map]; exact Nat.lt_of_le_of_lt (Nat.le_of_succ_le hql8) (by exact (Nat.lt_trans (Nat.lt_trans hin hrl) (by decide : 100 < 1000)))) fun h7 tk7 t7 nl7 k7 hl7 hn7 => ?_
      obtain ⟨F7, N7⟩ := lex_on F6 N6' hL8' hl7 (hd8 _) k7 hn7
      clear N6 N6' F6
      have hl7' : ∀ p ∈ rest ++ nl7, p.1 ≠ laid := fun p hp => by
        rcases List.mem_append.mp hp with hp | hp
        · exact hro p hp
        · exact fun e => hlR (e ▸ hl7.mem p hp)
      obtain ⟨rest2, hrest2⟩ : ∃ r, r = rest ++ nl7 := ⟨_, rfl⟩
      rw [← hrest2] at hl7'
      rw [List.cons_append, ← hrest2] at N7
      have hq8l : ((w0 :: q8).length : Int) = (q8.length : Int) + 1 := by simp
      rw [hq8l] at mw
      have hvl8 := hD8.length
      rw [List.length_map] at hvl8
      walk_at "mine go"
      rename Fr _ _ _ _ => F8
      rename News _ _ _ _ => N8
      rename _ ∧ AllLt _ rest2 => hlt
      rename_i T _ _ _
      rw [List.push_toArray] at N8
      have hT2 : ∀ p ∈ rest2, @LT.lt Nat _ p.1 T := allLt_mem hlt.2
      have hTl : @LT.lt Nat _ laid T := hlt.1
      have hTR : T ∉ LexRef.addrs ⟨cell, sg, std, st, cr, fn, lxd, lx, pb⟩ := fun q => by
        rw [← hl7.addr] at q
        obtain ⟨r, hr, e⟩ := List.mem_map.mp q
        have := hT2 r (by rw [hrest2]; exact List.mem_append_right _ hr)
        rw [e] at this
        exact Nat.lt_irrefl _ this
      have hT106 : T ≠ 106 := fun e => by
        have := hT2 (106, tabObj (lexTab cr)) (by rw [hrest2, hrest]; exact List.mem_append_left _ (List.mem_append_left _ (List.mem_append_right _ (.head _))))
        dsimp only at this
        rw [e] at this
        exact Nat.lt_irrefl _ this
      try dsimp only
      refine ⟨_, _, gs4, _, (laid, listOf (vs8 ++ [Value.ref T]).toArray (k8 + 1)) :: (nl7 ++ (((T, { cls := Value.type "tuple", data := Data.seq #[Value.str (mkS w0) t7, Value.int (↑i) tp] }) :: tups) ++ [(106, tabObj (lexTab cr))])), rfl, hgs, F8, fun q hq => N8 q ?_, ?_, vs8 ++ [Value.ref T], k8 + 1, (T, { cls := Value.type "tuple", data := Data.seq #[Value.str (mkS w0) t7, Value.int (↑i) tp] }) :: tups, nl7, q8, acc8 ++ [(w0, i)], _, rfl, hl7, ?_, hgo8, by rw [List.length_append, List.length_singleton]; exact ar82 hal8, by rw [List.length_cons] at hql8; exact (Nat.le_of_lt (Nat.lt_trans (Nat.lt_of_lt_of_le (Nat.lt_add_of_pos_right (by decide)) hql8) (Nat.lt_add_of_pos_right (by decide)))), ?_, ml, ma, mb, mr, lenP⟩
      · rw [hrest2, hrest]
        rcases List.mem_append.mp hq with hq | hq
        · refine memc hq ?_ fun q hq => ?_
          · exact .tail _ (.head _)
          · rcases List.mem_append.mp hq with hq | hq
            · exact .tail _ (.tail _ (List.mem_append_right _ hq))
            · refine memc hq ?_ fun q hq => ?_
              · exact .head _
              · exact .tail _ (.tail _ (List.mem_append_left _ (List.mem_append_left _ hq)))
        · exact .tail _ (.tail _ (List.mem_append_left _ (List.mem_append_right _ hq)))
      · intro q hq
        refine memc hq ?_ fun q hq => ?_
        · exact .inl (.head _)
        · rcases List.mem_append.mp hq with hq | hq
          · exact .inl (sameA (o' := default) (r := []) hL8' hl7 (.tail _ (List.mem_append_left _ hq)) |> fun h => by
              rcases List.mem_cons.mp h with h | h
              · exact List.mem_cons.mpr (.inl h)
              · refine .tail _ ?_
                rw [List.append_nil] at h
                rw [List.map_append]
                exact List.mem_append_left _ h)
          · refine memc hq ?_ fun q hq => ?_
            · right
              intro r hr e
              have := hT2 r (by rw [hrest2, hrest]; exact List.mem_append_left _ (List.mem_append_right _ hr))
              rw [e] at this
              exact Nat.lt_irrefl _ this
            · left
              refine .tail _ ?_
              rw [List.map_append]
              exact List.mem_append_right _ (List.mem_map_of_mem hq)
      · rw [List.map_append]
        exact (hD8.mono fun p hp => .tail _ hp).append (.one (.tuple (vs := [Value.str (mkS w0) t7, Value.int (↑i) tp]) (.head _) (.cons (.str _ _) (.cons (.int _ _) .nil))))
      · intro p hp
        refine memc hp ?_ fun p hp => ?_
        · exact ⟨(neN (Nat.ne_of_gt hTl)), hTR, hT106⟩
        · exact htu8 p hp
    · rename ((intsOf bs).any _) = false => hm
      have hib := not_mem_any hm
      rename ¬ (_ : Int) < _ => hw
      rename Fr _ _ _ _ => F6
      rename News _ _ _ _ => N6
      cases q8 with
      | cons w0 q8 => exact absurd (by simp) hw
      | nil =>
      rw [lineGo_nil hib] at hgo8
      try dsimp only
      refine ⟨_, _, gs4, _, (laid, listOf vs8.toArray k8) :: (nl8 ++ (tups ++ [(106, tabObj (lexTab cr))])), rfl, hgs, F6, hfin _ _ _ (by rw [hnl6]; exact N6), (fun q hq => .inl (List.mem_map_of_mem hq)), vs8, k8, tups, nl8, [], acc8, _, rfl, hL8', hD8, hgo8, by exact (Nat.le_of_lt (Nat.lt_of_le_of_lt hal8 (Nat.lt_add_of_pos_right (by decide)))), Nat.zero_le _, htu8, ml, ma, mb, mr, mw⟩
  · rintro m₁ news₁ h4 tk4 gs4 ⟨vs8, k8, tups, nl8, q8, acc8, tw8, rfl, hL8, hD8, hgo8, hal8, hql8, htu8, ml, ma, mb, mr, mw⟩ hgs F4 N4
    rw [List.drop_length] at hgo8
    obtain ⟨rfl, rfl⟩ : acc8 = acc ∧ q8 = [] := ⟨congrArg Prod.fst hgo8, congrArg Prod.snd hgo8⟩
    have hvl8 := hD8.length
    rw [List.length_map] at hvl8
    obtain ⟨rest, hrest⟩ : ∃ r, r = tups ++ [(106, tabObj (lexTab cr))] := ⟨_, rfl⟩
    rw [← hrest] at N4
    have hd8 : ∀ o : Obj, ∀ q ∈ (laid, o) :: rest, q.1 ∉ LexRef.addrs ⟨cell, sg, std, st, cr, fn, lxd, lx, pb⟩ := fun o q hq => by
      refine memc hq ?_ fun q hq => ?_
      · exact hlR
      · rw [hrest] at hq
        rcases List.mem_append.mp hq with hq | hq
        · exact (htu8 q hq).2.1
        · rw [List.mem_singleton.mp hq]; exact h106
    have hro : ∀ p ∈ rest, p.1 ≠ laid := fun p hp => by
      rw [hrest] at hp
      rcases List.mem_append.mp hp with hp | hp
      · exact (htu8 p hp).1
      · rw [List.mem_singleton.mp hp]; refine neN ?_; dsimp only; exact Nat.ne_of_lt l3.2.2.2.2.2.2.2.2.2
    have hL8' := hL8
    refine byG fun G9 k9 => ?_; rcases hL8 with ⟨vs6, us6, n16, n26, a1, a2, a3, a4, a5, a6, b1, b2, b3, b4, b5, b6, b7, tq6, pm6, ctv6, pb06, oc6, co6, fs6, hord6, hv6, hu6, hod6, hof6, hco6, hnl6⟩; all_goals (refine k9 ?_; clear k9 G9)
    have N5 : News g L h4 (((laid, listOf vs8.toArray k8) :: rest) ++ nl8) := fun q hq => N4 q (by
      rcases List.mem_append.mp hq with hq | hq
      · refine memc hq ?_ fun q hq => ?_
        · exact .head _
        · exact .tail _ (List.mem_append_right _ hq)
      · exact .tail _ (List.mem_append_left _ hq))
    have N5x := N4
    rw [hnl6] at N5x
    dsimp only [List.cons_append, List.nil_append] at N5x
    have back : ∀ (h9 : Heap), News g L h9 ((laid, listOf vs8.toArray k8) :: (nl8 ++ rest)) → News g L h9 (((laid, listOf vs8.toArray k8) :: rest) ++ nl8) := fun h9 N9 q hq => N9 q (by
      rcases List.mem_append.mp hq with hq | hq
      · refine memc hq ?_ fun q hq => ?_
        · exact .head _
        · exact .tail _ (List.mem_append_right _ hq)
      · exact .tail _ (List.mem_append_left _ hq))
    clear N4 N5 F3 N3 hr
    try dsimp only
    walk_at "mine go"
    rename Fr _ _ _ _ => F6
    rename News _ _ _ _ => N6
    have N6' := back _ (by rw [hnl6]; exact N6)
    refine tok_spec (R := ⟨cell, sg, std, st, cr, fn, lxd, lx, pb⟩) F6.keep Xg Tg (show dp + 1 + 2 < _ from hroom) hL8' (fun p hp => ⟨(N6' p (List.mem_append_right _ hp)).1, (N6' p (List.mem_append_right _ hp)).2.2⟩) (by decide) fun h7 tk7 t7 nl7 line7 k7 hl7 hli7 hn7 => ?_
    obtain ⟨F7, N7⟩ := lex_on F6 N6' hL8' hl7 (hd8 _) k7 hn7
    clear N6 N6' F6
    have hl7' : ∀ p ∈ rest ++ nl7, p.1 ≠ laid := fun p hp => by
      rcases List.mem_append.mp hp with hp | hp
      · exact hro p hp
      · exact fun e => hlR (e ▸ hl7.mem p hp)
    obtain ⟨rest2, hrest2⟩ : ∃ r, r = rest ++ nl7 := ⟨_, rfl⟩
    rw [← hrest2] at hl7'
    rw [List.cons_append, ← hrest2] at N7
    walk_at "mine go"
    rename Fr _ _ _ _ => F8
    rename News _ _ _ _ => N8
    rename_i T h8 l1 l2 h9 _ N9 l3 h10
    have hin2 : ∀ p ∈ rest2, h10.get? p.1 = some p.2 ∧ g.get? p.1 = none := fun p hp => ⟨(N8 p (.tail _ (.tail _ (.tail _ (.tail _ hp))))).1, (N8 p (.tail _ (.tail _ (.tail _ (.tail _ hp))))).2.2⟩
    have hlt2 : ∀ p ∈ rest2, @LT.lt Nat _ p.1 h9.objs.size := fun p hp => Heap.lt_size (N9 p (.tail _ (.tail _ (.tail _ hp)))).1
    have hT2 : ∀ p ∈ rest2, @LT.lt Nat _ p.1 T := allLt_mem l1.2
    have hm106 : (106, tabObj (lexTab cr)) ∈ rest2 := by rw [hrest2, hrest]; exact List.mem_append_left _ (List.mem_append_right _ (.head _))
    obtain ⟨ocx, fsx, tx, hmx, hox, hfx⟩ : ∃ oc fs t, (cr, oc) ∈ nl7 ∧ oc.data = .fields fs ∧ fs[1]? = some (.str (Str.ofString "_law_lexer" ++ ".<locals>." ++ Str.ofString "<lambda>") t) := by
      refine byG fun G9 k9 => ?_; rcases hl7 with ⟨vs6, us6, n16, n26, a1, a2, a3, a4, a5, a6, b1, b2, b3, b4, b5, b6, b7, tq6, pm6, ctv6, pb06, oc6, co6, fs6, hord6, hv6, hu6, hod6, hof6, hco6, rfl⟩; all_goals (refine k9 ?_; clear k9 G9)
      exact ⟨oc6, fs6, tq6, .tail _ (.tail _ (.tail _ (.tail _ (.head _)))), hod6, hof6⟩
    have hmx2 : (cr, ocx) ∈ rest2 := by rw [hrest2]; exact List.mem_append_right _ hmx
    have ha := N8 _ (.head _)
    dsimp only at ha
    have hTm := N8 _ (.tail _ (.tail _ (.head _)))
    refine fin h10 _ gs4 h9.objs.size (vs8 ++ [Value.ref T]) 0 ((T, { cls := Value.type "tuple", data := Data.seq #[Value.str (mkS (getTok [122]).fst) t7, Value.int (↑vr.toArray.size) (tk7 + 1)] }) :: tups) F8.keep (hin2 _ hm106).1 ⟨ocx, fsx, tx, (hin2 _ hmx2).1, hox, hfx⟩ hgs ha.2.2 (fun e => ?_) (fun e => ?_) ha.1 (fun q hq => ?_) ?_
    · have := hlt2 _ hmx2
      rw [e] at this
      exact Nat.lt_irrefl _ this
    · have := hlt2 _ hm106
      rw [e] at this
      exact Nat.lt_irrefl _ this
    · refine memc hq ?_ fun q hq => ?_
      · refine ⟨hTm.1, hTm.2.2, fun e => ?_, fun e => ?_⟩
        · have := hT2 _ hmx2
          dsimp only at e
          rw [e] at this
          exact Nat.lt_irrefl _ this
        · have := hT2 _ hm106
          dsimp only at e
          rw [e] at this
          exact Nat.lt_irrefl _ this
      · have hq2 : q ∈ rest2 := by rw [hrest2, hrest]; exact List.mem_append_left _ (List.mem_append_left _ hq)
        refine ⟨(hin2 q hq2).1, (hin2 q hq2).2, fun e => (htu8 q hq).2.1 (e ▸ ?_), (htu8 q hq).2.2⟩
        exact .tail _ (.tail _ (.tail _ (.tail _ (.head _))))
    · have e1 : (getTok [122]).fst = [122] := rfl
      have e2 : (vr.toArray.size : Int) = ((row.length : Nat) : Int) := by rw [List.size_toArray, hvr]
      rw [e1, e2]
      exact (hD8.mono fun p hp => .tail _ hp).append (.one (.tuple (vs := [Value.str (mkS [122]) t7, Value.int ((row.length : Nat) : Int) (tk7 + 1)]) (.head _) (.cons (.str _ _) (.cons (.int _ _) .nil))))
end
-- E2f
section
variable {M : Model} {prog : Program} {w : World} {A : Around} {E : Value → Shared → Prop} {s : Shared} {K : Frag} {h₀ : Heap} {L C : Addr} {m m₂ mg mb : Str → Option Value} {news : List (Addr × Obj)} {scope : Scope} {cl : List (Str × Addr)} {env : Env} {p : Program} {loose : List Str} {x : Str} {pos : Pos} {v : Value} {oC : Obj}
  {elt ct : Expr} {S : List (Addr × Obj) → Prop} {P : Nat → Value → Prop} {Fin : List Value → List (Addr × Obj) → Prop} {n : Nat}
/-- a comprehension with a test: any invariant of what is made and of the ledger -/
theorem compT_own (J : Nat → List Value → List (Addr × Obj) → Prop)
    (turn : ∀ i ys news, i < n → J i ys news → ∀ v I oI C oC D m₂ h tk (E' : Value → Shared → Prop), P i v → LCg.NsObj oC m₂ → m₂ x = some v → Fr h₀ L h m → News h₀ L h ((I, oI) :: (C, oC) :: (D, LCg.lst ys) :: news) → LCg.Off3 I C D news → ((@Ne Nat I C) ∧ (@Ne Nat I D) ∧ (@Ne Nat C D)) →
      wpAny (model prog w) A (isTrue ct (compEnvC scope cl C env) (eval ct (compEnvC scope cl C env))) (fun ok s' => if ok = true then
        wpAny (model prog w) A (eval elt (compEnvC scope cl C env)) (LCg.CompEnd h₀ L m { s with heap := h, toks := tk } I oI C oC D (LCg.lst ys) S (fun y news' => J (i + 1) (ys ++ [y]) news')) E' s'
        else LCg.CompEnd h₀ L m { s with heap := h, toks := tk } I oI C oC D (LCg.lst ys) S (fun _ news' => J (i + 1) ys news') Value.none s') E' { s with heap := h, toks := tk })
    (fin : ∀ ys news, J n ys news → Fin ys news) : ∀ k i ys news, i + k = n → J i ys news → LCt.CompRestT prog w A h₀ L m env ct elt x scope cl s S P Fin k i ys news
  | 0, i, ys, news, e, h => LCt.CompRestT.zero (fin ys news (by subst e; exact h))
  | k + 1, i, ys, news, e, h => LCt.CompRestT.succ fun v I oI C oC D m₂ hh tk E' hP hC hx F N off ne => by
    refine wpAny_mono (turn i ys news (by exact ar35 e) h v I oI C oC D m₂ hh tk E' hP hC hx F N off ne) (fun ok s' q => ?_) (fun _ _ e => e)
    cases ok with
    | true =>
      simp only [if_true] at q ⊢
      refine wpAny_mono q (fun y s'' r => ?_) (fun _ _ e => e)
      exact compEnd_mono r fun nw r => compT_own J turn fin k (i + 1) _ nw (by exact ar36 e) r
    | false =>
      simp only [Bool.false_eq_true, if_false] at q ⊢
      exact compEnd_mono q fun nw r => compT_own J turn fin k (i + 1) _ nw (by exact ar36 e) r
end
section
variable {prog : Program} {w : World} {A : Around} {E : Value → Shared → Prop} {h₀ h : Heap} {L l : Addr} {m : Str → Option Value} {news : List (Addr × Obj)} {gs : Array GenState} {dr : Drawn} {tk : Nat} {os : OsState} {value slice : Expr} {its : Array Value} {zs : List Value} {Q : Value → Shared → Prop} {vl vu vk : Value} {lo hi st : Option Int} {ops : List Value}
theorem slice3_own (F : Fr h₀ L h m) (N : News h₀ L h news) (hl : h.IsList l its) (pl : IsPart vl lo) (pu : IsPart vu hi) (pk : IsPart vk st) (h0 : st ≠ some 0) (e : (slicePick its lo hi st).toList = zs) (hz : its.size ≤ sizeLine)
    (k : ∀ D h', Fr h₀ L h' m → News h₀ L h' ((D, listOf zs.toArray 0) :: news) → (∀ p ∈ news, p.1 < D) → Q (.ref D) ⟨h', gs, dr, tk, os⟩)
    (hs : subscripted slice false (.ref l) (.ref h.objs.size) = operate ops (getItem (.ref l) (.ref h.objs.size))) (ht : ∀ r, letTemporaryGo value (.ref l) r = pure ()) :
    wpAny (model prog w) A (subscriptTail value slice (.ref l) (.ref h.objs.size)) Q E ⟨h.push { cls := .type "slice", data := .fields #[vl, vu, vk] }, gs, dr, tk, os⟩ :=
  kmk_slice3_lit (s := ⟨h, gs, dr, tk, os⟩) F N hl pl pu pk h0 e k hs ht hz
theorem add_own {b : Addr} {vs ws : List Value} (F : Fr h₀ L h m) (N : News h₀ L h news) (hl : h.IsList l vs.toArray) (hb : h.IsList b ws.toArray) (hsz : vs.length + ws.length ≤ sizeLine)
    (k : ∀ D h', Fr h₀ L h' m → News h₀ L h' ((D, listOf (vs ++ ws).toArray 0) :: news) → (∀ p ∈ news, p.1 < D) → Q (.ref D) ⟨h', gs, dr, tk, os⟩) :
    wpAny (model prog w) A (binaryOp .Add (.ref l) (.ref b)) Q E ⟨h, gs, dr, tk, os⟩ :=
  add_lists (s := ⟨h, gs, dr, tk, os⟩) F N hl hb (fun h' F' N' => k _ h' F' N' fun p hp => Heap.lt_size (N p hp).1) hsz
end
theorem ste2f_0 {x0 x1 x2 x3 x4 x5 x6 x7 x8 x9 x10 x11 x12 x13 x14} (h : LCt.CompSrcT x0 x1 x2 x3 x4 x5 x6 x7 x8 x9 x10 x11 x12 x13 x14) : LCt.CompSrcT x0 x1 x2 x3 x4 x5 x6 x7 x8 x9 x10 x11 x12 x13 x14 := h
theorem ste2f_1 {x0 x1 x2 x3 x4 x5 x6 x7 x8} (h : wpAny x0 x1 (subscriptTail x2 x3 (Value.ref x4) (Value.ref x5)) x6 x7 x8) : wpAny x0 x1 (subscriptTail x2 x3 (Value.ref x4) (Value.ref x5)) x6 x7 x8 := h
theorem ste2f_2 {x0 x1 x2 x3 x4 x5 x6 x7} (h : wpAny x0 x1 (call (Value.ref x2) x3 x4) x5 x6 x7) : wpAny x0 x1 (call (Value.ref x2) x3 x4) x5 x6 x7 := h
theorem ste2f_3 {x0 x1 x2 x3 x4 x5 x6} (h : wpAny x0 x1 (call (Value.builtin "list.pop") x2 x3) x4 x5 x6) : wpAny x0 x1 (call (Value.builtin "list.pop") x2 x3) x4 x5 x6 := h
theorem ste2f_4 {x0 x1 x2 x3 x4 x5 x6} (h : wpAny x0 x1 (binaryOp Operator.Add (Value.ref x2) (Value.ref x3)) x4 x5 x6) : wpAny x0 x1 (binaryOp Operator.Add (Value.ref x2) (Value.ref x3)) x4 x5 x6 := h
theorem ste2f_5 {x0 x1 x2 x3 x4 x5 x6 x7 x8 x9 x10 x11 x12 x13} (h : LCg.CompEnd x0 x1 x2 x3 x4 x5 x6 x7 x8 x9 x10 x11 x12 x13) : LCg.CompEnd x0 x1 x2 x3 x4 x5 x6 x7 x8 x9 x10 x11 x12 x13 := h
local macro_rules | `(tactic| walk_at "mine stop") => `(tactic| with_reducible first | refine ste2f_0 ?_ | refine ste2f_1 ?_ | refine ste2f_2 ?_ | refine ste2f_3 ?_ | refine ste2f_4 ?_ | refine ste2f_5 ?_)
section
variable {w : World} {pp : Program} {loose : List Str} {mean : ExcName → Option Value} {mg mb : Str → Option Value} {h₀ : Heap} {dp un : Nat} {fr : Option (List Env)} {gd : Option (List Code)} {s : Shared} {P : Result → Shared → Prop} {Q : Value → Shared → Prop}

noncomputable def emptyOf (bs : List Nat) : List Nat := (List.range (rowLen bs)).filter fun p => !bs.contains p
noncomputable def odds {α : Type} : List α → List α
  | [] => []
  | [_] => []
  | _ :: b :: r => b :: odds r
noncomputable def evens {α : Type} : List α → List α
  | [] => []
  | [a] => [a]
  | a :: _ :: r => a :: evens r
noncomputable def orderOf (bs : List Nat) (t : Nat) : List Nat := if t % 2 = 0 then evens bs ++ odds bs else odds bs ++ evens bs
/-- one more than the place of the box to take; 0: none -/
noncomputable def takeAt (boxes : List Nat) (back : Bool) (b : Nat) : Nat := if back then bisR (intsOf boxes) ((b : Int) - 1) else bisL (intsOf boxes) ((b : Int) + 1) + 1
noncomputable def nearGo (back : Bool) : List Nat → List Nat → List Int → Option (List Int)
  | [], _, f => some f
  | b :: r, boxes, f =>
    match takeAt boxes back b with
    | 0 => none
    | k + 1 => match boxes[k]? with
      | none => none
      | some x => nearGo back r (boxes.eraseIdx k) (insL f x)
noncomputable def nearP (bs : List Nat) (t : Nat) (back : Bool) : Option (List Int) := nearGo back (orderOf bs t) (emptyOf bs) []

noncomputable def sIdx (lo : Int) (n : Nat) : List Nat := sliceRange (sliceBounds (some lo) none (some 2) n).1 (sliceBounds (some lo) none (some 2) n).2.1 (sliceBounds (some lo) none (some 2) n).2.2
theorem pick_at (lo : Int) (vs : List Value) (js : List Nat) (h : sIdx lo vs.length = js) : (slicePick vs.toArray (some lo) none (some 2)).toList = js.filterMap (vs[·]?) := by
  subst h
  simp [slicePick, sIdx]
theorem pick_evens (vs : List Value) (h : vs.length < 7) : (slicePick vs.toArray (some 0) none (some 2)).toList = evens vs := by
  rcases vs with _ | ⟨a, _ | ⟨b, _ | ⟨c, _ | ⟨d, _ | ⟨e, _ | ⟨f, _ | ⟨g, r⟩⟩⟩⟩⟩⟩⟩
  · exact pick_at 0 _ [] (by decide)
  · exact pick_at 0 _ [0] (show sIdx 0 1 = _ by decide)
  · exact pick_at 0 _ [0] (show sIdx 0 2 = _ by decide)
  · exact pick_at 0 _ [0, 2] (show sIdx 0 3 = _ by decide)
  · exact pick_at 0 _ [0, 2] (show sIdx 0 4 = _ by decide)
  · exact pick_at 0 _ [0, 2, 4] (show sIdx 0 5 = _ by decide)
  · exact pick_at 0 _ [0, 2, 4] (show sIdx 0 6 = _ by decide)
  · simp only [List.length_cons] at h; exact ar83 h
theorem pick_odds (vs : List Value) (h : vs.length < 7) : (slicePick vs.toArray (some 1) none (some 2)).toList = odds vs := by
  rcases vs with _ | ⟨a, _ | ⟨b, _ | ⟨c, _ | ⟨d, _ | ⟨e, _ | ⟨f, _ | ⟨g, r⟩⟩⟩⟩⟩⟩⟩
  · exact pick_at 1 _ [] (by decide)
  · exact pick_at 1 _ [] (show sIdx 1 1 = _ by decide)
  · exact pick_at 1 _ [1] (show sIdx 1 2 = _ by decide)
  · exact pick_at 1 _ [1] (show sIdx 1 3 = _ by decide)
  · exact pick_at 1 _ [1, 3] (show sIdx 1 4 = _ by decide)
  · exact pick_at 1 _ [1, 3] (show sIdx 1 5 = _ by decide)
  · exact pick_at 1 _ [1, 3, 5] (show sIdx 1 6 = _ by decide)
  · simp only [List.length_cons] at h; exact ar83 h
theorem ints_evens : ∀ {vs : List Value} {bs : List Nat}, IntsAre vs (intsOf bs) → IntsAre (evens vs) (intsOf (evens bs))
  | _, [], h => by cases h; exact .nil
  | _, [_], h => by
    cases h with
    | cons a t h => cases h; exact .cons _ _ .nil
  | _, _ :: _ :: _, h => by
    cases h with
    | cons a t h => cases h with
      | cons b u h => exact .cons _ _ (ints_evens h)
theorem ints_odds : ∀ {vs : List Value} {bs : List Nat}, IntsAre vs (intsOf bs) → IntsAre (odds vs) (intsOf (odds bs))
  | _, [], h => by cases h; exact .nil
  | _, [_], h => by
    cases h with
    | cons a t h => cases h; exact .nil
  | _, _ :: _ :: _, h => by
    cases h with
    | cons a t h => cases h with
      | cons b u h => exact .cons _ _ (ints_odds h)
theorem evens_len {α : Type} : ∀ l : List α, (evens l).length + (odds l).length = l.length
  | [] => rfl
  | [_] => rfl
  | _ :: _ :: r => by
    have := evens_len r
    simp only [evens, odds, List.length_cons]; exact ar84 this
theorem evens_mem {α : Type} : ∀ (l : List α) (x : α), x ∈ evens l ∨ x ∈ odds l → x ∈ l
  | [], _, h => by rcases h with h | h <;> exact h
  | [_], _, h => by
    rcases h with h | h
    · exact h
    · cases h
  | a :: b :: r, x, h => by
    rcases h with h | h
    · rcases List.mem_cons.mp h with rfl | h
      · exact .head _
      · exact .tail _ (.tail _ (evens_mem r x (.inl h)))
    · rcases List.mem_cons.mp h with rfl | h
      · exact .tail _ (.head _)
      · exact .tail _ (.tail _ (evens_mem r x (.inr h)))
theorem filter_in {bs : List Nat} {i : Nat} (h : i ∈ bs) : ((List.range (i + 1)).filter fun p => !bs.contains p) = (List.range i).filter fun p => !bs.contains p := by
  rw [List.range_succ, List.filter_append, List.filter_cons, if_neg (by simp [h]), List.filter_nil, List.append_nil]
theorem filter_out {bs : List Nat} {i : Nat} (h : i ∉ bs) : ((List.range (i + 1)).filter fun p => !bs.contains p) = ((List.range i).filter fun p => !bs.contains p) ++ [i] := by
  rw [List.range_succ, List.filter_append, List.filter_cons, if_pos (by simp [h]), List.filter_nil]

theorem cut_nat : ∀ {vs : List Value} {bx : List Nat} {k x : Nat}, IntsAre vs (intsOf bx) → bx[k]? = some x → ∃ p q t, kl_cut vs k = some (p, .int (x : Int) t, q) ∧ IntsAre (p ++ q) (intsOf (bx.eraseIdx k)) ∧ k < bx.length
  | _, [], k, x, _, h => by simp at h
  | _, a :: bx, 0, x, h, hx => by
    have hx : a = x := by simpa using hx
    subst hx
    cases h with
    | cons _ t h => exact ⟨[], _, t, rfl, h, by simp⟩
  | _, a :: bx, k + 1, x, h, hx => by
    cases h with
    | cons _ t h =>
      refine byG fun G9 k9 => ?_; rcases cut_nat (bx := bx) h (by simpa using hx) with ⟨p, q, u, e, i, l⟩; all_goals (refine k9 ?_; clear k9 G9)
      refine ⟨_ :: p, q, u, by rw [kl_cut, e], .cons _ _ i, by simpa using l⟩
theorem erase_len {bx : List Nat} {k : Nat} (h : k < bx.length) : (bx.eraseIdx k).length ≤ bx.length := by
  rw [List.length_eraseIdx_of_lt h]; exact ar85
theorem near_step {back : Bool} {b : Nat} {r bx : List Nat} {f res : List Int} (h : nearGo back (b :: r) bx f = some res) : ∃ k x, takeAt bx back b = k + 1 ∧ bx[k]? = some x ∧ nearGo back r (bx.eraseIdx k) (insL f x) = some res := by
  unfold nearGo at h
  cases e : takeAt bx back b with
  | zero => rw [e] at h; cases r <;> cases h
  | succ k =>
    rw [e] at h
    cases e2 : bx[k]? with
    | none => dsimp only at h; rw [e2] at h; cases r <;> cases h
    | some x =>
      dsimp only at h
      rw [e2] at h
      exact ⟨k, x, rfl, e2, by cases r <;> exact h⟩
theorem insL_len (f : List Int) (x : Int) : (insL f x).length = f.length + 1 := by
  have := bisL_le f x
  unfold insL
  rw [List.length_append, List.length_cons, List.length_take, List.length_drop]; exact ar86
theorem seqIdx_nat {k n : Nat} (h : k < n) : seqIndex? (k : Int) n = some k := by
  have h0 : ¬ ((k : Int) < 0) := by omega
  simp only [seqIndex?, h0, if_false]
  rw [if_pos (by simp; omega), Int.toNat_natCast]
inductive NearI (D fl : Addr) (bs : List Nat) (t : Nat) (back : Bool) (res : List Int) (i : Nat) (m : Str → Option Value) (news : List (Addr × Obj)) : Prop
  | mk (yb : List Value) (kb : Nat) (yf : List Value) (kf : Nat) (bx : List Nat) (f : List Int) (e : news = [(D, listOf (List.toArray yb) kb), (fl, listOf (List.toArray yf) kf)]) (hb : IntsAre yb (intsOf bx)) (hf : IntsAre yf f) (hg : nearGo back ((orderOf bs t).drop i) bx f = some res) (h1 : bx.length < 120) (h2 : f.length ≤ i)
    (mf : m (Str.ofString "filled") = some (.ref fl)) (mb : m (Str.ofString "boxes") = some (.ref D)) (mk : m (Str.ofString "back") = some (.bool back))
set_option maxHeartbeats 4000000 in
theorem near_spec {ab : Addr} {vb : List Value} {bs : List Nat} {t : Nat} {tt : Tok} {back : Bool} {res : List Int}
    (k₀ : h₀.StaysIn s.heap) (X : (hd.heap_39 w.params).In h₀) (T : TopRead pp loose mg mb h₀) (hroom : dp + 2 < recursionLimit)
    (hl : s.heap.IsList ab vb.toArray) (hi : IntsAre vb (intsOf bs)) (hne : bs ≠ []) (hb : ∀ b ∈ bs, b < 100) (hbl : bs.length < 7) (ht : t < 10) (hP : nearP bs t back = some res)
    (h : ∀ h' tk g' a vs n, s.heap.StaysIn h' → (AllBare s.gens → AllBare g') → s.heap.get? a = none → h'.get? a = some (listOf vs.toArray n) → IntsAre vs res → Q (.ref a) { s with heap := h', toks := tk, gens := g' }) :
    wpAny (model PR w) (AA dp un fr gd) (call (.ref 154) [.ref ab, .int (t : Int) tt, .bool back]) Q NoE s := by
  refine' enterC (binds := [(Str.ofString "balls", .ref ab), (Str.ofString "turn", .int (t : Int) tt), (Str.ofString "back", .bool back)]) [] k₀ X T (fun _ q => nomatch q) ?ho ?hcd ?hroom ?hb ?hkind ?hnd ?_ ?c2 ?c3 ?c4
  case ho => k_is
  case hcd => k_is
  case hroom => show dp < recursionLimit; exact (Nat.lt_trans (Nat.lt_add_of_pos_right (by decide)) hroom)
  case hb => exact BindsTo.of_eq rfl
  case hkind => rfl
  case hnd => decide
  case c2 => rfl
  case c3 => rfl
  case c4 => rfl
  intro g L h₁ tk cells kg bg og F N CA Xg Tg lg
  have hlg : g.IsList ab vb.toArray := stays_list (But.nil bg) hl
  have hvb : vb.length = bs.length := hi.length.trans (List.length_map ..)
  have fin : ∀ h' tk g' a vs n, g.StaysIn h' → (AllBare s.gens → AllBare g') → g.get? a = none → h'.get? a = some (listOf vs.toArray n) → IntsAre vs res → Q (.ref a) { s with heap := h', toks := tk, gens := g' } :=
    fun h' tk g' a vs n k hb ha he hv => h h' tk g' a vs n (fun b o e => k b o (bg.nil b o e)) hb (by
      cases e : s.heap.get? a with
      | none => rfl
      | some o => have := bg.nil a o e; rw [ha] at this; cases this) he hv
  clear k₀ X T kg og hl h bg
  k_cells CA
  simp only [List.append_nil, List.cons_append, List.nil_append] at N
  show wpAny _ _ _ _ _ _
  k_fold
  walk_at "mine go"
  rename Obj => co
  rename co.data = _ => hco
  refine LCt.Assign_ListComp_T (F₀ := F) (by rfl) (by with_unfolding_all rfl) (by rfl) (by decide) (by rfl) (by decide) (by rfl) (by rfl) (by rfl) ?_
  walk_at "mine go"
  refine item_last (stays_list F.keep hlg) hi hne fun t1 => ?_
  walk_at "mine go"
  rename Fr _ _ _ _ => F2
  rename News _ _ _ _ => N2
  rename IsRange _ _ _ _ _ _ _ _ => hr
  have hlast : bs.getLastD 0 < 100 := by
    rw [List.getLastD_eq_getLast?]
    cases e : bs.getLast? with
    | none => exact absurd (List.getLast?_eq_none_iff.mp e) hne
    | some b => exact hb b (List.mem_of_getLast? e)
  have hrl : rowLen bs = bs.getLastD 0 + 1 + bs.length := rfl
  have hvs : ((intsOf bs).length : Int) = bs.length := by unfold intsOf; rw [List.length_map]
  rw [hvs] at hr
  refine LCt.CompSrcT.range (n := rowLen bs) rfl F2 N2 hr (small_one (by decide) (by decide) (by exact ar43) (by exact ar87 hbl hlast)) (by rw [rangeSize_nat]; exact ar45 hrl) (by rw [sizeLine_eq]; exact ar88 hbl hlast hrl) fun g' => ?_
  refine compT_own (fun i ys news => news = [(L + 1, co)] ∧ IntsAre ys (intsOf ((List.range i).filter fun p => !bs.contains p))) ?_ ?_ _ 0 [] _ (Nat.zero_add _) ⟨rfl, .nil⟩
  · rintro i ys news hin ⟨rfl, hys⟩ v I oI C oC D m₂ h3 tk3 E' ⟨t3, rfl⟩ hC hx F3 N3 off ne
    rw [Int.zero_add] at hx
    walk_at "mine go"
    · rename ((intsOf bs).any _) = true => hm
      have hib := mem_any hm
      rename Fr _ _ _ _ => F4
      rename News _ _ _ _ => N4
      exact LCg.CompEnd.intro F4 N4 [(L + 1, co)] (fun p hp => hp) off trivial ⟨rfl, by rw [filter_in hib]; exact hys⟩
    · rename ((intsOf bs).any _) = false => hm
      have hib := not_mem_any hm
      walk_at "mine go"
      rename Fr _ _ _ _ => F4
      rename News _ _ _ _ => N4
      exact LCg.CompEnd.intro F4 N4 [(L + 1, co)] (fun p hp => hp) off trivial ⟨rfl, by rw [filter_out hib]; unfold intsOf; rw [List.map_append]; exact ints_append hys (.cons _ _ .nil)⟩
  · rintro ys news ⟨rfl, hys⟩
    unfold LCg.FinA
    intro D h5 tk5 F5 N5 o1
    clear hr F2 N2
    walk_at "mine go"
    refine wpAny_For ?_
    walk_at "mine go"
    rename Fr _ _ _ _ => F6
    rename News _ _ _ _ => N6
    rename_i fl _ l6 _ _ _
    have hE : Int.fmod (t : Int) 2 = ((t % 2 : Nat) : Int) := by rw [Int.fmod_eq_emod_of_nonneg _ (by decide)]; exact ar89
    have hvb9 : vb.length < 7 := by exact (Nat.lt_of_le_of_lt (Nat.le_of_eq hvb) hbl)
    have hvsz : vb.toArray.size ≤ sizeLine := by rw [List.size_toArray, sizeLine_eq]; exact (Nat.le_of_lt (Nat.lt_trans (Nat.lt_of_le_of_lt (Nat.le_of_eq hvb) hbl) (by decide : 7 < 16777216)))
    try dsimp only
    refine slice3_own (zs := if t % 2 = 0 then evens vb else odds vb) F6 N6 (stays_list F6.keep hlg) (.int _ _) .none (.int _ _) (by decide) ?_ hvsz (fun D7 h7 F7 N7 l7 => ?_) (by with_unfolding_all rfl) (by intro _; with_unfolding_all rfl)
    · rw [hE]
      rcases (show t % 2 = 0 ∨ t % 2 = 1 by exact ar90) with h2 | h2
      · rw [h2, if_pos rfl]; exact pick_evens vb hvb9
      · rw [h2, if_neg (by decide)]; exact pick_odds vb hvb9
    walk_at "mine go"
    rename Fr _ _ _ _ => F8
    rename News _ _ _ _ => N8
    try dsimp only
    refine slice3_own (zs := if t % 2 = 0 then odds vb else evens vb) F8 N8 (stays_list F8.keep hlg) (.int _ _) .none (.int _ _) (by decide) ?_ hvsz (fun D9 h9 F9 N9 l9 => ?_) (by with_unfolding_all rfl) (by intro _; with_unfolding_all rfl)
    · rw [hE]
      rcases (show t % 2 = 0 ∨ t % 2 = 1 by exact ar90) with h2 | h2
      · rw [h2, if_pos rfl]; exact pick_odds vb hvb9
      · rw [h2, if_neg (by decide)]; exact pick_evens vb hvb9
    walk_at "mine go"
    try dsimp only
    have hev := evens_len vb
    refine add_own F9 N9 (isList_news (l := if t % 2 = 0 then evens vb else odds vb) N9 (.tail _ (.head _))) (isList_news (l := if t % 2 = 0 then odds vb else evens vb) N9 (.head _)) (by rw [sizeLine_eq]; split <;> (first | exact ar91 hbl hvb hev | exact ar92 hbl hvb hev)) fun D10 h10 F10 N10 l10 => ?_
    have hio : IntsAre ((if t % 2 = 0 then evens vb else odds vb) ++ (if t % 2 = 0 then odds vb else evens vb)) (intsOf (orderOf bs t)) := by
      unfold orderOf
      rcases (show t % 2 = 0 ∨ t % 2 = 1 by exact ar90) with h2 | h2
      · rw [if_pos h2, if_pos h2, if_pos h2]; unfold intsOf; rw [List.map_append]; exact ints_append (ints_evens ‹_›) (ints_odds ‹_›)
      · rw [if_neg (by exact Nat.ne_of_gt (Nat.lt_of_lt_of_le (by decide : 0 < 1) (Nat.le_of_eq h2.symm))), if_neg (by exact Nat.ne_of_gt (Nat.lt_of_lt_of_le (by decide : 0 < 1) (Nat.le_of_eq h2.symm))), if_neg (by exact Nat.ne_of_gt (Nat.lt_of_lt_of_le (by decide : 0 < 1) (Nat.le_of_eq h2.symm)))]; unfold intsOf; rw [List.map_append]; exact ints_append (ints_odds ‹_›) (ints_evens ‹_›)
    generalize ((if t % 2 = 0 then evens vb else odds vb) ++ (if t % 2 = 0 then odds vb else evens vb)) = vo at hio N10
    walk_at "mine go"
    have N11 : News g L h10 [(D, LCg.lst ys), (fl, listOf #[] 0)] := fun q hq => by
      refine memc hq ?_ fun q hq => ?_
      · exact N10 _ (.tail _ (.tail _ (.tail _ (.tail _ (.head _)))))
      · rw [List.mem_singleton.mp hq]; exact N10 _ (.tail _ (.tail _ (.tail _ (.head _))))
    have hDf : @LT.lt Nat _ D fl := l6.1
    have hol : (orderOf bs t).length = bs.length := by
      have := evens_len bs
      unfold orderOf
      split <;> (rw [List.length_append]; first | exact this | exact ar93 this)
    have hom : ∀ b ∈ orderOf bs t, b < 100 := fun b hb' => hb b (by
      unfold orderOf at hb'
      split at hb' <;> (rcases List.mem_append.mp hb' with q | q <;> first | exact evens_mem _ _ (.inl q) | exact evens_mem _ _ (.inr q)))
    have hvo : vo.length = (orderOf bs t).length := hio.length.trans (List.length_map ..)
    have hbx : (emptyOf bs).length < 120 := by
      have h1 := List.length_filter_le (fun p => !bs.contains p) (List.range (rowLen bs))
      have h2 : emptyOf bs = (List.range (rowLen bs)).filter fun p => !bs.contains p := rfl
      rw [List.length_range, ← h2] at h1
      exact ar94 hbl hlast hrl h1
    refine for_list (NearI D fl bs t back res) rfl
      F10 N11 (isList_news N10 (.head _)) (N10 (D10, _) (.head _)).2.1 (fun q hq => ?_) ⟨ys, _, [], 0, emptyOf bs, [], rfl, hys, .nil, hP, hbx, Nat.le_refl _, rfl, rfl, rfl⟩ stores_local (fun _ _ q => q) ?_ ?_
    · have : @LT.lt Nat _ q.1 D10 := by
        refine memc hq ?_ fun q hq => ?_
        · exact l10 _ (.tail _ (.tail _ (.tail _ (.head _))))
        · rw [List.mem_singleton.mp hq]; exact l10 _ (.tail _ (.tail _ (.head _)))
      exact Nat.ne_of_lt this
    · clear F6 N6 F8 N8 F9 N9 F10 N10 N11
      rintro i v m₁ news₁ ot h12 tk12 gs12 hin hv ⟨yb, kb, yf, kf, bx, f, rfl, hyb, hyf, hgo, hbl2, hfl, mf, mb, mk⟩ hgs F12 N12 hot
      have hib : i < (orderOf bs t).length := by simpa [hvo] using hin
      obtain ⟨tb, htb⟩ := ints_get (i := i) (n := (((orderOf bs t)[i] : Nat) : Int)) hio (by simp [intsOf, hib])
      obtain rfl : v = .int (((orderOf bs t)[i] : Nat) : Int) tb := Option.some.inj ((by simpa using hv : vo[i]? = some v).symm.trans htb)
      have hb100 := hom _ (List.getElem_mem hib)
      rw [List.drop_eq_getElem_cons hib] at hgo
      refine byG fun G9 k9 => ?_; rcases near_step hgo with ⟨k, x, htk, hbk, hgo2⟩; all_goals (refine k9 ?_; clear k9 G9)
      generalize (orderOf bs t)[i] = b at *
      dsimp only [List.cons_append, List.nil_append] at N12
      have hyl := hyb.length
      have hyfl := hyf.length
      have hbl3 : (intsOf bx).length = bx.length := List.length_map ..
      have hot1 := hot (D, _) (.head _)
      have hot2 := hot (fl, _) (.tail _ (.head _))
      refine byG fun G9 k9 => ?_; rcases cut_nat hyb hbk with ⟨p, q, tx, hcut, hpq, hkl⟩; all_goals (refine k9 ?_; clear k9 G9)
      cases back with
      | true =>
        walk_at "mine go"
        refine br_spec F12.keep Xg Tg (show dp + 1 < _ by exact ar95 hroom) (isList_news N12 (.head _)) hyb (by exact (Nat.lt_trans (Nat.lt_of_le_of_lt (Nat.le_trans (Nat.le_of_eq hyl) (Nat.le_of_eq hbl3)) hbl2) (by decide : 120 < 1000))) fun t13 h13 tk13 k13 => ?_
        have F13 := fr_stays F12 k13
        have N13 := news_stays N12 k13
        have htk' : bisR (intsOf bx) ((b : Int) - 1) = k + 1 := htk
        rw [htk']
        clear F12 N12
        walk_at "mine go"
        have ek1 : (((k + 1 : Nat) : Int) - 1) = (k : Int) := by exact ar96
        try rw [ek1]
        refine kl_popAt (its := yb.toArray) F13 N13 (fits_nat (by exact (Nat.lt_trans (Nat.lt_trans hkl hbl2) (by decide : 120 < 1000)))) (seqIdx_nat (by rw [List.size_toArray]; exact (Nat.lt_of_lt_of_le (Nat.lt_of_lt_of_le hkl (Nat.le_of_eq hbl3.symm)) (Nat.le_of_eq hyl.symm)))) hcut (.head (List.forall_mem_cons.mpr ⟨Ne.symm (Nat.ne_of_lt hDf), hot1⟩)) (by show yb.length ≤ _; rw [sizeLine_eq]; exact ar97 hbl2 hyl hbl3) fun h14 F14 N14 => ?_
        clear F13 N13
        walk_at "mine go"
        refine ins_spec F14.keep Xg Tg (show dp + 1 + 1 < _ by omega) (N14 (fl, _) (.tail _ (.head _))).1 (N14 (fl, _) (.tail _ (.head _))).2.2 hyf (by exact ar98 hbl hol hfl hib hyfl) fun h15 tk15 yf' n15 k15 hf15 hi15 => ?_
        have F15 := fr_but1 F14 N14 (.tail _ (.head _)) k15
        have N15 := news_but1 N14 (.tail (Nat.ne_of_lt hDf) (.head hot2)) k15 hf15
        clear F14 N14
        walk_at "mine go"
        try dsimp only
        exact ⟨_, _, gs12, _, [(D, listOf (p ++ q).toArray (kb + 1)), (fl, listOf yf'.toArray n15)], rfl, hgs, F15, N15, rfl, p ++ q, kb + 1, yf', n15, bx.eraseIdx k, insL f x, rfl, hpq, hi15, hgo2, Nat.lt_of_le_of_lt (erase_len hkl) hbl2, by rw [insL_len]; exact ar82 hfl, mf, mb, mk⟩
      | false =>
        walk_at "mine go"
        refine bl_spec (tl := 216) F12.keep Xg Tg (show dp + 1 < _ by exact ar95 hroom) (.inl ⟨rfl, rfl⟩) (isList_news N12 (.head _)) hyb (by exact (Nat.lt_trans (Nat.lt_of_le_of_lt (Nat.le_trans (Nat.le_of_eq hyl) (Nat.le_of_eq hbl3)) hbl2) (by decide : 120 < 1000))) fun t13 h13 tk13 k13 => ?_
        have F13 := fr_stays F12 k13
        have N13 := news_stays N12 k13
        have htk' : bisL (intsOf bx) ((b : Int) + 1) = k := Nat.succ.inj htk
        rw [htk']
        clear F12 N12
        walk_at "mine go"
        refine kl_popAt (its := yb.toArray) F13 N13 (fits_nat (by exact (Nat.lt_trans (Nat.lt_trans hkl hbl2) (by decide : 120 < 1000)))) (seqIdx_nat (by rw [List.size_toArray]; exact (Nat.lt_of_lt_of_le (Nat.lt_of_lt_of_le hkl (Nat.le_of_eq hbl3.symm)) (Nat.le_of_eq hyl.symm)))) hcut (.head (List.forall_mem_cons.mpr ⟨Ne.symm (Nat.ne_of_lt hDf), hot1⟩)) (by show yb.length ≤ _; rw [sizeLine_eq]; exact ar97 hbl2 hyl hbl3) fun h14 F14 N14 => ?_
        clear F13 N13
        walk_at "mine go"
        refine ins_spec F14.keep Xg Tg (show dp + 1 + 1 < _ by omega) (N14 (fl, _) (.tail _ (.head _))).1 (N14 (fl, _) (.tail _ (.head _))).2.2 hyf (by exact ar98 hbl hol hfl hib hyfl) fun h15 tk15 yf' n15 k15 hf15 hi15 => ?_
        have F15 := fr_but1 F14 N14 (.tail _ (.head _)) k15
        have N15 := news_but1 N14 (.tail (Nat.ne_of_lt hDf) (.head hot2)) k15 hf15
        clear F14 N14
        walk_at "mine go"
        try dsimp only
        exact ⟨_, _, gs12, _, [(D, listOf (p ++ q).toArray (kb + 1)), (fl, listOf yf'.toArray n15)], rfl, hgs, F15, N15, rfl, p ++ q, kb + 1, yf', n15, bx.eraseIdx k, insL f x, rfl, hpq, hi15, hgo2, Nat.lt_of_le_of_lt (erase_len hkl) hbl2, by rw [insL_len]; exact ar82 hfl, mf, mb, mk⟩
    · rintro m₁ news₁ h12 tk12 gs12 ⟨yb, kb, yf, kf, bx, f, rfl, hyb, hyf, hgo, hbl2, hfl, mf, mb, mk⟩ hgs F12 N12
      have e1 : vo.toArray.size = (orderOf bs t).length := by simpa using hvo
      rw [e1, List.drop_length] at hgo
      obtain rfl : f = res := Option.some.inj hgo
      try dsimp only
      clear F6 N6 F8 N8 F9 N9 F10 N10 N11
      walk_at "mine go"
      try dsimp only
      exact fin _ _ _ _ _ _ F12.keep hgs (N12 (fl, _) (.tail _ (.head _))).2.2 (N12 (fl, _) (.tail _ (.head _))).1 hyf
end
-- E3f
section
variable {w : World} {pp : Program} {loose : List Str} {mean : ExcName → Option Value} {mg mb : Str → Option Value} {h₀ : Heap} {dp un : Nat} {fr : Option (List Env)} {gd : Option (List Code)} {s : Shared} {P : Result → Shared → Prop} {Q : Value → Shared → Prop}

noncomputable def tabIns : List (List Int) → Int → List (List Int)
  | [], x => [[x]]
  | r :: rs, x => if bisR r x < r.length then (r.set (bisR r x) x) :: tabIns rs (r.getD (bisR r x) 0) else (r ++ [x]) :: rs
noncomputable def tabP (ns : List Int) : List Nat := (ns.foldl tabIns []).map List.length

end
local macro_rules | `(tactic| walk_at "call builtin:len") => `(tactic| (k_here; k_dflt (refine' len_list (isList_news (by k_asm) (by k_mem)) ?k2 ?_; (case k2 => simp only [List.size_toArray]; omega); k_whole)))
section
variable {w : World} {pp : Program} {loose : List Str} {mean : ExcName → Option Value} {mg mb : Str → Option Value} {h₀ : Heap} {dp un : Nat} {fr : Option (List Env)} {gd : Option (List Code)} {s : Shared} {P : Result → Shared → Prop} {Q : Value → Shared → Prop}
/-- the rows in the ledger -/
inductive RowsAre : List (Addr × Obj) → List (List Int) → Prop
  | nil : RowsAre [] []
  | cons {a : Addr} {vs : List Value} {n : Nat} {r : List Int} {cells : List (Addr × Obj)} {rws : List (List Int)} : IntsAre vs r → RowsAre cells rws → RowsAre ((a, listOf vs.toArray n) :: cells) (r :: rws)
theorem RowsAre.length : ∀ {cells : List (Addr × Obj)} {rws : List (List Int)}, RowsAre cells rws → cells.length = rws.length
  | _, _, .nil => rfl
  | _, _, .cons _ h => congrArg (· + 1) h.length
theorem RowsAre.at : ∀ {cells : List (Addr × Obj)} {dn rest : List (List Int)} {r : List Int}, RowsAre cells (dn ++ r :: rest) → ∃ pre a vs n post, cells = pre ++ (a, listOf (List.toArray vs) n) :: post ∧ pre.length = dn.length ∧ IntsAre vs r ∧
    (∀ vs' n' r', IntsAre vs' r' → RowsAre (pre ++ (a, listOf (List.toArray vs') n') :: post) (dn ++ r' :: rest))
  | _, [], rest, r, .cons (cells := cells) hi h => ⟨[], _, _, _, cells, rfl, rfl, hi, fun _ _ _ q => .cons q h⟩
  | _, d :: dn, rest, r, .cons (a := b) (vs := us) (n := nn) hi h => by
    refine byG fun G9 k9 => ?_; rcases RowsAre.at (dn := dn) h with ⟨pre, a, vs, n, post, e, hl, hv, k⟩; all_goals (refine k9 ?_; clear k9 G9)
    exact ⟨(b, listOf us.toArray nn) :: pre, a, vs, n, post, by rw [e]; rfl, by simp [hl], hv, fun vs' n' r' q => .cons hi (k vs' n' r' q)⟩
theorem RowsAre.snoc : ∀ {cells : List (Addr × Obj)} {rws : List (List Int)} {a : Addr} {vs : List Value} {n : Nat} {r : List Int}, RowsAre cells rws → IntsAre vs r → RowsAre (cells ++ [(a, listOf vs.toArray n)]) (rws ++ [r])
  | _, _, _, _, _, _, .nil, h => .cons h .nil
  | _, _, _, _, _, _, .cons hi h, q => .cons hi (h.snoc q)

theorem getD_some : ∀ {l : List Int} {k : Nat}, k < l.length → l[k]? = some (l.getD k 0)
  | _ :: _, 0, _ => rfl
  | _ :: l, k + 1, h => by simpa using getD_some (l := l) (k := k) (by simpa using h)
theorem ints_set {x : Int} {t : Tok} : ∀ {vs : List Value} {xs : List Int} (k : Nat), IntsAre vs xs → IntsAre (vs.set k (.int x t)) (xs.set k x)
  | _, _, _, .nil => .nil
  | _, _, 0, .cons y u h => .cons _ _ h
  | _, _, k + 1, .cons y u h => .cons y u (ints_set k h)
theorem ints_snoc {x : Int} {t : Tok} {vs : List Value} {xs : List Int} (h : IntsAre vs xs) : IntsAre (vs ++ [.int x t]) (xs ++ [x]) := IntsAre.append h (.cons _ _ .nil)
theorem lenT {q : List (List Int)} {w : List Int} {t : Tok} : some (Value.int ((q.length : Int) + 1) t) = some (.int (((q ++ [w]).length : Nat) : Int) t) := by rw [List.length_append]; rfl
theorem RowsAre.get : ∀ {cells : List (Addr × Obj)} {rws : List (List Int)}, RowsAre cells rws → ∀ (j : Nat) (h : j < cells.length) (h' : j < rws.length), ∃ vs n, cells[j].2 = listOf (List.toArray vs) n ∧ IntsAre vs rws[j]
  | _, _, .nil, j, h, _ => absurd h (Nat.not_lt_zero _)
  | _, _, .cons hi _, 0, _, _ => ⟨_, _, rfl, hi⟩
  | _, _, .cons _ r, j + 1, h, h' => r.get j (Nat.lt_of_succ_lt_succ h) (Nat.lt_of_succ_lt_succ h')
inductive TabI (rw0 : Addr) (ns : List Int) (i : Nat) (m : Str → Option Value) (news : List (Addr × Obj)) : Prop
  | mk (cells : List (Addr × Obj)) (rws : List (List Int)) (k : Nat) (e : news = (rw0, listOf (List.toArray (cells.map fun c : Addr × Obj => Value.ref c.1)) k) :: cells) (hR : RowsAre cells rws) (hd : (cells.map (·.1)).Nodup) (hc : ∀ c ∈ cells, c.1 ≠ rw0) (hr : rws = (ns.take i).foldl tabIns [])
    (hl : rws.length ≤ i) (hx : ∀ r ∈ rws, r.length ≤ i) (mr : m (Str.ofString "rows") = some (.ref rw0))
inductive TabW (s : Shared) (gs7 : Array GenState) (g : Heap) (L rw0 : Addr) (rs : List Value) (kr : Nat) (ot cells : List (Addr × Obj)) (rws : List (List Int)) (x0 : Int) (i : Nat) (n : Nat) (s' : Shared) : Prop
  | mk (h : Heap) (tk : Nat) (m : Str → Option Value) (cs : List (Addr × Obj)) (dn rest : List (List Int)) (x : Int) (tx tkk : Tok) (hn : n = rest.length) (e : s' = ⟨h, gs7, s.drawn, tk, s.os⟩) (F : Fr g L h m) (N : News g L h ((rw0, listOf (List.toArray rs) kr) :: (cs ++ ot))) (hR : RowsAre cs (dn ++ rest))
    (hc : cs.map (·.1) = cells.map (·.1)) (hg : dn ++ tabIns rest x = tabIns rws x0) (hl : ∀ r ∈ dn ++ rest, r.length ≤ i) (mr : m (Str.ofString "rows") = some (.ref rw0)) (mk : m (Str.ofString "k") = some (.int ((dn.length : Nat) : Int) tkk)) (mx : m (Str.ofString "x") = some (.int x tx))
set_option maxHeartbeats 4000000 in
theorem table_spec {an : Addr} {vn : List Value} {ns : List Int}
    (k₀ : h₀.StaysIn s.heap) (X : (hd.heap_39 w.params).In h₀) (T : TopRead pp loose mg mb h₀) (hroom : dp + 2 < recursionLimit)
    (hl : s.heap.IsList an vn.toArray) (hi : IntsAre vn ns) (hnl : ns.length < 10)
    (h : ∀ h' tk g' a vs n, s.heap.StaysIn h' → (AllBare s.gens → AllBare g') → s.heap.get? a = none → h'.get? a = some (listOf vs.toArray n) → IntsAre vs (intsOf (tabP ns)) → Q (.ref a) { s with heap := h', toks := tk, gens := g' }) :
    wpAny (model PR w) (AA dp un fr gd) (call (.ref 159) [.ref an]) Q NoE s := by
  refine' enterM (binds := [(Str.ofString "numbers", .ref an)]) [] k₀ X T (fun _ q => nomatch q) ?ho ?hcd ?hroom ?hb ?hloc ?_ ?c2 ?c3 ?c4 ?c5
  case ho => k_is
  case hcd => k_is
  case hroom => show dp < recursionLimit; exact (Nat.lt_trans (Nat.lt_add_of_pos_right (by decide)) hroom)
  case hb => exact BindsTo.of_eq rfl
  case hloc => exact locs rfl
  case c2 => rfl
  case c3 => rfl
  case c4 => rfl
  case c5 => decide
  intro g L h₁ kg bg og F N Xg Tg
  have hlg : g.IsList an vn.toArray := stays_list (But.nil bg) hl
  have hvn : vn.length = ns.length := hi.length
  have fin : ∀ h' tk g' a vs n, g.StaysIn h' → (AllBare s.gens → AllBare g') → g.get? a = none → h'.get? a = some (listOf vs.toArray n) → IntsAre vs (intsOf (tabP ns)) → Q (.ref a) { s with heap := h', toks := tk, gens := g' } :=
    fun h' tk g' a vs n k hb ha he hv => h h' tk g' a vs n (fun b o e => k b o (bg.nil b o e)) hb (by
      cases e : s.heap.get? a with
      | none => rfl
      | some o => have := bg.nil a o e; rw [ha] at this; cases this) he hv
  clear k₀ X T kg og hl h bg
  show wpAny _ _ _ _ _ _
  k_fold
  walk_at "mine go"
  refine wpAny_For ?_
  walk_at "mine go"
  rename Fr _ _ _ _ => F1
  rename News _ _ _ _ => N1
  rename_i rw0 _ l1 _ _ _
  have hrs : ∀ {b : Nat} {its : Array Value}, g.IsList b its → b ≠ L := fun ⟨o, ho, _⟩ => Nat.ne_of_lt (Nat.lt_of_lt_of_le (Heap.lt_size ho) F1.above)
  have hrw0 : rw0 ≠ an := fun e => by
    have := (N1 (rw0, _) (.head _)).2.2
    obtain ⟨o, ho, _⟩ := hlg
    rw [e] at this; rw [this] at ho; cases ho
  refine for_list2 (TabI rw0 ns) rfl
      F1 N1 (stays_list F1.keep hlg) (hrs hlg) (fun q hq => by obtain rfl := List.mem_singleton.mp hq; exact hrw0) ⟨[], [], 0, rfl, .nil, List.nodup_nil, (fun _ q => nomatch q), rfl, Nat.le_refl _, (fun _ q => nomatch q), rfl⟩ stores_local (fun _ _ q => q) ?_ ?_
  · clear F1 N1
    rintro i v m₁ news₁ ot h7 tk7 gs7 hin hv ⟨cells, rws, kr, rfl, hRA, hnd, hcR, hrw, hrl, hrr, mr⟩ hgs F7 N7 hot
    have hib : i < ns.length := by simpa [hvn] using hin
    obtain ⟨tb, htb⟩ := ints_get (i := i) (n := ns[i]) (‹IntsAre vn ns›) (by simp [hib])
    obtain rfl : v = .int ns[i] tb := Option.some.inj ((by simpa using hv : vn[i]? = some v).symm.trans htb)
    have htg : (ns.take (i + 1)).foldl tabIns [] = tabIns rws ns[i] := by
      rw [List.take_succ_eq_append_getElem hib, List.foldl_append, hrw]; rfl
    walk_at "mine go"
    rename Fr _ _ _ _ => F8
    rename News _ _ _ _ => N8
    obtain ⟨rs, hrsE⟩ : ∃ rs, rs = cells.map fun c : Addr × Obj => Value.ref c.1 := ⟨_, rfl⟩
    rw [← hrsE] at N8
    refine while_own (TabW s gs7 g L rw0 rs kr ot cells rws ns[i] i)
      rws.length ⟨_, _, _, cells, [], rws, ns[i], tb, _, rfl, rfl, F8, N8, hRA, rfl, rfl, hrr, mr, rfl, rfl⟩ ?_
    clear F8 N8
    rintro n s' ⟨h9, tk9, m9, cs, dn, rest, x, tx, tkk, rfl, rfl, F9, N9, hRA9, hca, hgo, hlen, mr9, mk9, mx9⟩
    have hl1 := hRA9.length
    have hl2 := congrArg List.length hca
    rw [List.length_map, List.length_map] at hl2
    rw [List.length_append] at hl1
    have hl3 := hRA.length
    have hrl9 : rs.length = dn.length + rest.length := by rw [hrsE, List.length_map]; exact ar99 hl1 hl2
    have hrs10 : rs.length < 10 := by exact ar100 hnl hrl hib hl1 hl2 hl3 hrl9
    cases rest with
    | nil =>
      rw [List.length_nil] at hrl9
      obtain ⟨rst, hrst⟩ : ∃ r, r = cs ++ ot := ⟨_, rfl⟩
      have hr2 : ∀ p ∈ rst, p.1 ≠ rw0 := fun p hp => by
        rw [hrst] at hp
        rcases List.mem_append.mp hp with hp | hp
        · have : p.1 ∈ cells.map (·.1) := by rw [← hca]; exact List.mem_map_of_mem hp
          obtain ⟨d, hd', e2⟩ := List.mem_map.mp this
          exact fun e => hcR d hd' (e2.trans e)
        · exact hot (rw0, _) (.head _) p hp
      rw [← hrst] at N9
      walk_at "mine go"
      · rename Fr _ _ _ _ => F10
        rename News _ _ _ _ => N10
        rename _ ∧ AllLt _ rst => hlt
        rename_i l _ _
        rw [List.push_toArray] at N10
        have hl3 : ∀ p ∈ rst, @LT.lt Nat _ p.1 l := allLt_mem hlt.2
        have hl4 : ∀ p ∈ rst, p.1 ≠ l := fun p hp => Nat.ne_of_lt (hl3 p hp)
        have hll : @LT.lt Nat _ rw0 l := hlt.1
        have hdl : (rs ++ [Value.ref l])[dn.length]? = some (.ref l) := by
          have : dn.length = rs.length := by exact ar101 hrl9
          rw [this]; simp
        refine item_nat (isList_news N10 (.tail _ (.head _))) (by exact ar102 hrs10 hrl9) hdl ?_
        walk_at "mine go"
        rename Fr _ _ _ _ => F11
        rename News _ _ _ _ => N11
        rw [List.append_nil] at hRA9 hlen
        have hrs2 : rs ++ [Value.ref l] = (cs ++ [(l, listOf (List.toArray [Value.int x tx]) 1)]).map fun c : Addr × Obj => Value.ref c.1 := by
          rw [List.map_append, hrsE]
          have : (cells.map (·.1)).map Value.ref = (cs.map (·.1)).map Value.ref := by rw [hca]
          rw [List.map_map, List.map_map] at this
          have e2 : (cells.map fun c : Addr × Obj => Value.ref c.1) = cs.map fun c : Addr × Obj => Value.ref c.1 := this
          rw [e2]; rfl
        rw [hrs2] at N11
        have hln : ∀ c ∈ cells.map (·.1), c ≠ l := fun c hc => by
          rw [← hca] at hc
          obtain ⟨d, hd', rfl⟩ := List.mem_map.mp hc
          exact hl4 d (by rw [hrst]; exact List.mem_append_left _ hd')
        try dsimp only
        refine ⟨_, _, gs7, _, (rw0, _) :: (cs ++ [(l, listOf (List.toArray [Value.int x tx]) 1)]), rfl, hgs, F11, fun q hq => N11 q ?_, fun q hq => ?_, cs ++ [(l, listOf (List.toArray [Value.int x tx]) 1)], dn ++ [[x]], kr + 1, rfl, hRA9.snoc (.cons _ _ .nil), ?_, fun c hc => ?_, ?_, ?_, fun q hq => ?_, mr9⟩
        · rw [hrst]
          rcases List.mem_append.mp hq with hq | hq
          · refine memc hq ?_ fun q hq => ?_
            · exact .tail _ (.head _)
            · rcases List.mem_append.mp hq with hq | hq
              · exact .tail _ (.tail _ (List.mem_append_left _ hq))
              · rw [List.mem_singleton.mp hq]; exact .head _
          · exact .tail _ (.tail _ (List.mem_append_right _ hq))
        · refine memc hq ?_ fun q hq => ?_
          · exact .inl (.head _)
          · rcases List.mem_append.mp hq with hq | hq
            · left
              refine .tail _ ?_
              rw [← hca]
              exact List.mem_map_of_mem hq
            · right
              rw [List.mem_singleton.mp hq]
              exact fun r hr => hl4 r (by rw [hrst]; exact List.mem_append_right _ hr)
        · rw [List.map_append, hca]
          refine List.nodup_append.mpr ⟨hnd, by simp, fun c hc d hd' => ?_⟩
          rw [List.mem_singleton.mp hd']
          exact hln c hc
        · rcases List.mem_append.mp hc with hc | hc
          · exact hr2 c (by rw [hrst]; exact List.mem_append_left _ hc)
          · rw [List.mem_singleton.mp hc]; exact Ne.symm (Nat.ne_of_lt hll)
        · rw [htg, ← hgo]; rfl
        · rw [List.length_append, List.length_singleton]; omega
        · rcases List.mem_append.mp hq with hq | hq
          · exact Nat.le_succ_of_le (hlen q hq)
          · rw [List.mem_singleton.mp hq]; exact Nat.succ_le_succ (Nat.zero_le _)
      · rename _ ≠ _ => hx
        exact absurd (by rw [List.size_toArray, hrl9]; rfl) hx
    | cons r rest =>
      rw [List.length_cons] at hrl9
      refine byG fun G9 k9 => ?_; rcases hRA9.at with ⟨pre, a, vs, n', post, rfl, hpl, hvi, hset⟩; all_goals (refine k9 ?_; clear k9 G9)
      have hak : rs[dn.length]? = some (.ref a) := by
        have e : rs = ((pre ++ (a, listOf vs.toArray n') :: post).map (·.1)).map Value.ref := by rw [hca, hrsE, List.map_map]; rfl
        rw [e, List.map_append, List.map_append, ← hpl]
        simp
      have hvl := hvi.length
      have hri : r.length ≤ i := hlen r (List.mem_append_right _ (.head _))
      have har : a ≠ rw0 := fun e => by
        have : a ∈ cells.map (·.1) := by rw [← hca, List.map_append]; exact List.mem_append_right _ (.head _)
        obtain ⟨c, hc, e2⟩ := List.mem_map.mp this
        exact hcR c hc (e2.trans e)
      have har' : @Ne Nat rw0 a := Ne.symm har
      have hnd9 : ((pre ++ (a, listOf vs.toArray n') :: post).map (·.1)).Nodup := by rw [hca]; exact hnd
      obtain ⟨rst, hrst⟩ : ∃ r, r = pre ++ (post ++ ot) := ⟨_, rfl⟩
      have hof : ∀ c ∈ pre ++ (a, listOf vs.toArray n') :: post, c.1 ≠ rw0 ∧ ∀ r ∈ ot, r.1 ≠ c.1 := fun c hc => by
        have : c.1 ∈ cells.map (·.1) := by rw [← hca]; exact List.mem_map_of_mem hc
        obtain ⟨d, hd', e2⟩ := List.mem_map.mp this
        exact ⟨fun e => hcR d hd' (e2.trans e), fun r hr e => hot d (.tail _ hd') r hr (e.trans e2.symm)⟩
      have hr1 : ∀ p ∈ rst, p.1 ≠ a := fun p hp e => by
        rw [hrst] at hp
        rw [List.map_append, List.map_cons] at hnd9
        obtain ⟨q1, q2, q3⟩ := List.nodup_append.mp hnd9
        rcases List.mem_append.mp hp with hp | hp
        · exact q3 _ (List.mem_map_of_mem hp) _ (.head _) e
        · rcases List.mem_append.mp hp with hp | hp
          · exact (List.nodup_cons.mp q2).1 (by dsimp only; rw [← e]; exact List.mem_map_of_mem hp)
          · exact (hof (a, listOf vs.toArray n') (List.mem_append_right _ (.head _))).2 p hp e
      have hr2 : ∀ p ∈ rst, p.1 ≠ rw0 := fun p hp => by
        rw [hrst] at hp
        rcases List.mem_append.mp hp with hp | hp
        · exact (hof p (List.mem_append_left _ hp)).1
        · rcases List.mem_append.mp hp with hp | hp
          · exact (hof p (List.mem_append_right _ (.tail _ hp))).1
          · exact hot (rw0, _) (.head _) p hp
      have N10 : News g L h9 ((a, listOf vs.toArray n') :: (rw0, listOf rs.toArray kr) :: rst) := fun q hq => N9 q (by
        rw [hrst] at hq
        refine memc hq ?_ fun q hq => ?_
        · exact .tail _ (List.mem_append_left _ (List.mem_append_right _ (.head _)))
        · refine memc hq ?_ fun q hq => ?_
          · exact .head _
          · refine .tail _ ?_
            rcases List.mem_append.mp hq with hq | hq
            · exact List.mem_append_left _ (List.mem_append_left _ hq)
            · rcases List.mem_append.mp hq with hq | hq
              · exact List.mem_append_left _ (List.mem_append_right _ (.tail _ hq))
              · exact List.mem_append_right _ hq)
      have back : ∀ (h11 : Heap) (o : Obj), News g L h11 ((a, o) :: (rw0, listOf rs.toArray kr) :: rst) → News g L h11 ((rw0, listOf rs.toArray kr) :: ((pre ++ (a, o) :: post) ++ ot)) := fun h11 o N q hq => N q (by
        rw [hrst]
        refine memc hq ?_ fun q hq => ?_
        · exact .tail _ (.head _)
        · rcases List.mem_append.mp hq with hq | hq
          · rcases List.mem_append.mp hq with hq | hq
            · exact .tail _ (.tail _ (List.mem_append_left _ hq))
            · refine memc hq ?_ fun q hq => ?_
              · exact .head _
              · exact .tail _ (.tail _ (List.mem_append_right _ (List.mem_append_left _ hq)))
          · exact .tail _ (.tail _ (List.mem_append_right _ (List.mem_append_right _ hq))))
      clear N9
      walk_at "mine go"
      refine item_nat (isList_news N10 (.tail _ (.head _))) (by exact ar103 hrs10 hrl9) hak ?_
      walk_at "mine go"
      refine br_spec F9.keep Xg Tg (show dp + 1 < _ by exact ar95 hroom) (isList_news N10 (.head _)) hvi (by exact (Nat.lt_trans (Nat.lt_trans (Nat.lt_of_le_of_lt (Nat.le_trans (Nat.le_of_eq hvl) hri) hib) hnl) (by decide : 10 < 1000))) fun t13 h13 tk13 k13 => ?_
      have F13 := fr_stays F9 k13
      have N13 := news_stays N10 k13
      clear F9 N10
      walk_at "mine go"
      refine item_nat (isList_news N13 (.tail _ (.head _))) (by exact ar103 hrs10 hrl9) hak ?_
      walk_at "mine go"
      · rename (bisR r x : Int) < _ => hbl
        rw [List.size_toArray, hvl] at hbl
        have hbl' : bisR r x < r.length := by exact ar5 hbl
        obtain ⟨ty, hty⟩ := ints_get (i := bisR r x) (n := r.getD (bisR r x) 0) hvi (getD_some hbl')
        rw [tabIns, if_pos hbl'] at hgo
        refine item_nat (isList_news N13 (.tail _ (.head _))) (by exact ar103 hrs10 hrl9) hak ?_
        walk_at "mine go"
        refine br_spec F13.keep Xg Tg (show dp + 1 < _ by exact ar95 hroom) (isList_news N13 (.head _)) hvi (by exact (Nat.lt_trans (Nat.lt_trans (Nat.lt_of_le_of_lt (Nat.le_trans (Nat.le_of_eq hvl) hri) hib) hnl) (by decide : 10 < 1000))) fun t15 h15 tk15 k15 => ?_
        have F15 := fr_stays F13 k15
        have N15 := news_stays N13 k15
        clear F13 N13
        walk_at "mine go"
        rename Fr _ _ _ _ => F16
        rename News _ _ _ _ => N16
        refine item_nat (isList_news N16 (.tail _ (.head _))) (by exact ar103 hrs10 hrl9) hak ?_
        walk_at "mine go"
        refine kba_turn (value' := Expr.Name (Str.ofString "_") ⟨0, 0, 0, 0⟩) (fun _ => rfl) (item_nat (isList_news N16 (.head _)) (by exact ar104 hnl hib hri hbl) hty ?_)
        walk_at "mine go"
        rename Fr _ _ _ _ => F17
        rename News _ _ _ _ => N17
        refine item_nat (isList_news N17 (.tail _ (.head _))) (by exact ar103 hrs10 hrl9) hak ?_
        walk_at "mine go"
        rename Fr _ _ _ _ => F19
        rename News _ _ _ _ => N19
        rw [Int.toNat_natCast] at N19
        try dsimp only
        refine ⟨rest.length, Nat.lt_succ_self _, _, _, _, pre ++ (a, listOf (vs.set (bisR r x) (.int x tx)).toArray n') :: post, dn ++ [r.set (bisR r x) x], rest, r.getD (bisR r x) 0, ty, _, rfl, rfl, F19, back _ _ N19, ?_, ?_, ?_, ?_, mr9, lenT, rfl⟩
        · rw [List.append_assoc]
          exact hset _ _ _ (ints_set _ hvi)
        · rw [← hca, List.map_append, List.map_append]; rfl
        · rw [← hgo, List.append_assoc]; rfl
        · intro q hq
          rw [List.append_assoc] at hq
          rcases List.mem_append.mp hq with hq | hq
          · exact hlen q (List.mem_append_left _ hq)
          · refine memc hq ?_ fun q hq => ?_
            · rw [List.length_set]; exact hri
            · exact hlen q (List.mem_append_right _ (.tail _ hq))
      · rename (dn.length : Int) = _ => hx
        rw [List.size_toArray, hrl9] at hx
        exact ar105 hx
      · rename ¬ (bisR r x : Int) < _ => hbl
        rw [List.size_toArray, hvl] at hbl
        have hbl' : ¬ bisR r x < r.length := by exact ar11 hbl
        rw [tabIns, if_neg hbl'] at hgo
        refine item_nat (isList_news N13 (.tail _ (.head _))) (by exact ar103 hrs10 hrl9) hak ?_
        walk_at "mine go"
        rename Fr _ _ _ _ => F19
        rename News _ _ _ _ => N19
        rw [List.push_toArray] at N19
        have hca2 : (pre ++ (a, listOf (List.toArray (vs ++ [Value.int x tx])) (n' + 1)) :: post).map (·.1) = cells.map (·.1) := by rw [← hca, List.map_append, List.map_append]; rfl
        have hrs2 : rs = (pre ++ (a, listOf (List.toArray (vs ++ [Value.int x tx])) (n' + 1)) :: post).map fun c : Addr × Obj => Value.ref c.1 := by
          rw [hrsE]
          have := congrArg (List.map Value.ref) hca2
          rw [List.map_map, List.map_map] at this
          exact this.symm
        have N20 := back _ _ N19
        rw [hrs2] at N20
        try dsimp only
        refine ⟨_, _, gs7, _, (rw0, _) :: (pre ++ (a, listOf (List.toArray (vs ++ [Value.int x tx])) (n' + 1)) :: post), rfl, hgs, F19, N20, fun q hq => .inl ?_, pre ++ (a, listOf (List.toArray (vs ++ [Value.int x tx])) (n' + 1)) :: post, dn ++ (r ++ [x]) :: rest, kr, rfl, hset _ _ _ (ints_snoc hvi), by rw [hca2]; exact hnd, fun c hc => ?_, by rw [htg, ← hgo], ?_, fun q hq => ?_, mr9⟩
        · refine memc hq ?_ fun q hq => ?_
          · exact .head _
          · refine .tail _ ?_
            rw [← hca2]
            exact List.mem_map_of_mem hq
        · have : c.1 ∈ cells.map (·.1) := by rw [← hca2]; exact List.mem_map_of_mem hc
          obtain ⟨d, hd', e2⟩ := List.mem_map.mp this
          exact fun e => hcR d hd' (e2.trans e)
        · have h9 : rs.length = cells.length := by rw [hrsE, List.length_map]
          rw [List.length_append, List.length_cons]; exact ar106 hrl hl3 hrl9 h9
        · rcases List.mem_append.mp hq with hq | hq
          · exact Nat.le_succ_of_le (hlen q (List.mem_append_left _ hq))
          · refine memc hq ?_ fun q hq => ?_
            · rw [List.length_append, List.length_singleton]; exact Nat.succ_le_succ hri
            · exact Nat.le_succ_of_le (hlen q (List.mem_append_right _ (.tail _ hq)))
  · rintro m₁ news₁ h12 tk12 gs12 ⟨cells, rws, kr, rfl, hRA, hnd, hcR, hrw, hrl, hrr, mr⟩ hgs F12 N12
    have e1 : vn.toArray.size = ns.length := by simpa using hvn
    rw [e1, List.take_length] at hrw
    clear F1 N1
    try dsimp only
    walk_at "mine go"
    have hcl := hRA.length
    refine LCg.ListComp_U (F₀ := F12) (by with_unfolding_all rfl) (by decide) (by rfl) (by decide) (by rfl) ?_
    walk_at "mine go"
    refine LCg.CompSrc.ledger rfl F12 N12 (.head _) (by simp only [List.size_toArray, List.length_map]; rw [sizeLine_eq]; exact ar107 hnl hrl e1 hcl) fun g' => ?_
    refine comp_own (fun j ys nw => nw = (rw0, listOf (List.toArray (cells.map fun c : Addr × Obj => Value.ref c.1)) kr) :: cells ∧ IntsAre ys (intsOf ((rws.take j).map List.length))) ?_ ?_ _ 0 [] _ (Nat.zero_add _) ⟨rfl, .nil⟩
    · rintro j ys nw hjn ⟨rfl, hys⟩ v I oI C oC D m₂ h3 tk3 hP hC hx F3 N3 off ne
      have hjc : j < cells.length := by simpa using hjn
      have hjr : j < rws.length := by exact (Nat.lt_of_lt_of_le hjc (Nat.le_of_eq hcl))
      obtain ⟨vs, n', hce, hvi⟩ := hRA.get j hjc hjr
      have hv : v = .ref cells[j].1 := by
        have : (cells.map fun c : Addr × Obj => Value.ref c.1)[j]? = some v := by simpa using hP
        rw [List.getElem?_map, List.getElem?_eq_getElem hjc] at this
        exact (Option.some.inj this).symm
      subst hv
      have hvl := hvi.length
      have hvs : rws[j].length < 12 := Nat.lt_of_le_of_lt (hrr _ (List.getElem_mem hjr)) (by rw [e1]; exact (Nat.lt_trans hnl (by decide : 10 < 12)))
      walk_at "mine go"
      refine len_list (items := vs.toArray) ⟨_, (N3 cells[j] (.tail _ (.tail _ (.tail _ (.tail _ (List.getElem_mem hjc)))))).1, by rw [hce], _, by rw [hce]⟩ (by rw [List.size_toArray]; exact ar108 hvl hvs) ?_
      refine LCg.CompEnd.intro F3 N3 _ (fun p hp => hp) off (.inr ⟨_, .head _, rfl, _, rfl⟩) ⟨rfl, ?_⟩
      rw [List.take_succ_eq_append_getElem hjr, List.map_append]
      unfold intsOf
      rw [List.map_append, List.size_toArray, hvl]
      exact ints_append hys (.cons _ _ .nil)
    · rintro ys nw ⟨rfl, hys⟩
      unfold LCg.FinE
      intro D h5 tk5 F5 N5 o1
      have e9 : (List.toArray (cells.map fun c : Addr × Obj => Value.ref c.1)).size = rws.length := by simp [hcl]
      rw [e9, List.take_length, hrw] at hys
      try dsimp only
      walk_at "mine go"
      try dsimp only
      exact fin _ _ _ _ _ _ F5.keep hgs (N5 (D, _) (.head _)).2.2 (N5 (D, _) (.head _)).1 hys
end
-- F0
section
variable {prog : Program} {w : World} {A : Around} {s : Shared} {g : Heap} {L : Addr} {m : Str → Option Value} {news : List (Addr × Obj)} {I : Addr} {fp wr : List Addr} {n : Nat} {St : Nat → Heap → Prop} {Q : Flow → Shared → Prop} {R : Result → Shared → Prop} {env : Env} {body : List Stmt}

/-- for x, y in an iterator of pairs -/
theorem for_walkT2 (fx : List (Addr × Obj)) {x1 x2 : Str} {p1 p2 pt : Pos} {kk : Nat} {Pt : Nat → Array Value → Prop} {Mid : Nat → Addr → Heap → Prop} (Wk : WalksT prog w A I fp wr n Pt St Mid) (J : Nat → (Str → Option Value) → List (Addr × Obj) → Prop) (hh : A.handled = none)
    (F : Fr g L s.heap m) (N : News g L s.heap news) (hst : St 0 s.heap) (hfL : L ∉ fp) (hfn : ∀ q ∈ news, q.1 ∉ fp) (hwg : ∀ b ∈ wr, g.get? b = none) (hJ : J 0 m news) (hx : Stores prog w A g L env x1 p1) (hy : Stores prog w A g L env x2 p2) (hR : ∀ f s', Q f s' → R (.ok f) s')
    (hp : ∀ i vals, Pt i vals → ∃ a b, vals = #[a, b]) (Nf : News g L s.heap fx) (hfw : ∀ q ∈ fx, q.1 ∉ wr) (hfd : ∀ q ∈ fx, q.1 ∉ news.map (·.1))
    (turn : ∀ i a b m₁ news₁ ot h₁ tk₁ gs₁, i < n → Pt i #[a, b] → J i m₁ news₁ → (AllBare s.gens → AllBare gs₁) → Fr g L h₁ (fun y => if y = x2 then some b else if y = x1 then some a else m₁ y) → News g L h₁ (news₁ ++ ot) → (∀ q ∈ news₁, ∀ r ∈ ot, r.1 ≠ q.1) →
      ∀ Jp : Shared → Prop, LpK (TurnA g L s.gens s.drawn s.os ot news₁ (J (i + 1))) Jp → wpAny (model prog w) A (execs body env) (BodyK Jp Q) NoE ⟨h₁, gs₁, s.drawn, tk₁, s.os⟩)
    (done : ∀ m₁ news₁ h₁ tk₁ gs₁, J n m₁ news₁ → (AllBare s.gens → AllBare gs₁) → Fr g L h₁ m₁ → News g L h₁ news₁ → News g L h₁ fx → Q .next ⟨h₁, gs₁, s.drawn, tk₁, s.os⟩) :
    codeAny (model prog w) A (.forLoop (.Tuple [.Name x1 p1, .Name x2 p2] kk pt) (.ref I) body [] env) R s := by
  refine for_own (Q := Q) (fun k s' => ∃ i m news h tk gs, k + i = n ∧ s' = ⟨h, gs, s.drawn, tk, s.os⟩ ∧ (AllBare s.gens → AllBare gs) ∧ Fr g L h m ∧ News g L h news ∧ (∀ q ∈ news, q.1 ∉ fp) ∧ St i h ∧ J i m news ∧ News g L h fx ∧ (∀ q ∈ fx, q.1 ∉ news.map (·.1)))
    n ⟨0, m, news, s.heap, s.toks, s.gens, rfl, rfl, id, F, N, hfn, hst, hJ, Nf, hfd⟩ hR ?_
  rintro k s' ⟨i, m₁, news₁, h₁, tk₁, gs₁, hk, rfl, hb, F₁, N₁, hn₁, st₁, J₁, Nf₁, hd₁⟩ Jp kJ
  have stillx : ∀ {h₁ h' : Heap}, News g L h₁ fx → (∀ b o, b ∉ wr → h₁.get? b = some o → h'.get? b = some o) → News g L h' fx := fun {h₁ h'} N hk q hq => ⟨hk _ _ (hfw q hq) (N q hq).1, (N q hq).2⟩
  have still : ∀ {h₁ h' : Heap}, Fr g L h₁ m₁ → News g L h₁ news₁ → (∀ b o, b ∉ wr → h₁.get? b = some o → h'.get? b = some o) → Fr g L h' m₁ ∧ News g L h' news₁ := fun {h₁ h'} F₁ N₁ hk => by
    refine byG fun G9 k9 => ?_; rcases F₁.ns with ⟨oL, es, ep, hLL, r⟩; all_goals (refine k9 ?_; clear k9 G9)
    exact ⟨⟨⟨oL, es, ep, hk _ _ (fun q => hfL (Wk.sub _ q)) hLL, r⟩, fun b o e => hk b o (fun q => by rw [hwg b q] at e; cases e) (F₁.keep b o e), F₁.above⟩,
      fun q hq => ⟨hk _ _ (fun z => hn₁ q hq (Wk.sub _ z)) (N₁ q hq).1, (N₁ q hq).2⟩⟩
  cases k with
  | zero =>
    obtain rfl : i = n := by exact ar109 hk
    refine Wk.done _ _ _ st₁ fun h' tk' hk' => ?_
    obtain ⟨F₂, N₂⟩ := still F₁ N₁ hk'
    exact done _ _ _ _ _ J₁ hb F₂ N₂ (stillx Nf₁ hk')
  | succ k =>
    refine Wk.item i _ _ _ (by exact ar110 hk) st₁ fun T vals h' tk' hP hTs hT mid hk' => ?_
    obtain ⟨F₂, N₂⟩ := still F₁ N₁ hk'
    obtain ⟨a, b, rfl⟩ := hp i vals hP
    refine Wk.go _ _ _ i T _ _ _ mid fun h₂ st₂ hk₂ => ?_
    obtain ⟨F₃, N₃⟩ := still F₂ N₂ hk₂
    have Nf₃ := stillx (stillx Nf₁ hk') hk₂
    have hT₂ : IsTup h₂ T #[a, b] := by
      obtain ⟨o, ho, r⟩ := hT
      exact ⟨o, hk₂ _ _ (Wk.apart _ _ _ mid) ho, r⟩
    refine assign_Tuple_tuple hh hT₂ rfl rfl fun h₄ e₄ => ?_
    have F₄ := F₃.extBut e₄ (Nat.le_refl _)
    have N₄ := (news_others N₃).extBut e₄ (Nat.le_refl _)
    refine assignInOrder_cons (hx _ _ _ a _ F₄ N₄ fun h₅ tk₅ F₅ N₅ => ?_)
    refine assignInOrder_cons (hy _ _ _ b _ F₅ N₅ fun h₆ tk₆ F₆ N₆ => ?_)
    refine assignInOrder_nil ?_
    refine turn i a b m₁ news₁ _ h₆ tk₆ gs₁ (by exact ar110 hk) hP J₁ hb F₆ N₆ (fun q hq r hr e => (mem_others.mp hr).2.2.2 (e ▸ List.mem_map_of_mem hq)) Jp ⟨fun s₃ => ?_⟩
    rintro ⟨h₄, tk₄, gs₄, m₄, news₄, e, hb₄, F₄, N₄, hm, J₄⟩
    refine kJ.h _ ⟨k, Nat.lt_succ_self _, i + 1, m₄, news₄, h₄, tk₄, gs₄, by exact ar111 hk, e, hb₄, F₄, fun q hq => N₄ q (List.mem_append_left _ hq), fun q hq => ?_, Wk.frame _ _ _ st₂ (keep_others F₃ F₄ N₄ hfL hn₁), J₄, fun q hq => N₄ q (List.mem_append_right _ (mem_others.mpr ⟨(Nf₃ q hq).1, (Nf₃ q hq).2.1, (Nf₃ q hq).2.2, hd₁ q hq⟩)), fun q hq => by rw [hm]; exact hd₁ q hq⟩
    have : q.1 ∈ news₄.map (·.1) := List.mem_map_of_mem hq
    rw [hm] at this
    obtain ⟨r, hr, e⟩ := List.mem_map.mp this
    rw [← e]; exact hn₁ r hr
end
-- F1
section
variable {w : World} {pp : Program} {loose : List Str} {mean : ExcName → Option Value} {mg mb : Str → Option Value} {h₀ : Heap} {dp un : Nat} {fr : Option (List Env)} {gd : Option (List Code)} {s : Shared} {P : Result → Shared → Prop} {Q : Value → Shared → Prop}

noncomputable def names5 : List (List Nat) := [[40, 32], [92, 41, 40, 9], [34, 92, 34, 41, 34, 40, 12], [40, 100, 92, 92], [92, 34, 40, 101]]
noncomputable def base5 : List Int := [4, 9, 20, 26, 23]
noncomputable def gapOf (x : Int) : Nat := [0, 0, 1, 2].getD (x % 4).toNat 0
noncomputable def plainW (w : List Nat) : List Nat := w.flatMap fun c => if c ∈ [40, 41, 100, 101, 12] then [c] else [92, c]
noncomputable def quotedW (w : List Nat) : List Nat := 34 :: replL [34] [92, 34] 0 (replL [92] [92, 92] 0 w) ++ [34]
noncomputable def chunkOf (x : Int) (j : Nat) (w : List Nat) : List Nat :=
  if (x / 4 + (j : Int)) % 2 = 1 then plainW w ++ [[32, 9, 10, 13].getD (x / 8 % 4).toNat 0] else quotedW w ++ [[32], [], [10], [13]].getD (x / 8 % 4).toNat []
noncomputable def freshOf (n : Nat) (x : Int) (name : List Nat) : List (List Nat) := ((List.range (gapOf x)).map fun j => boxC (n + j)) ++ [name]
noncomputable def chunksOf (x : Int) : Nat → List (List Nat) → List Nat
  | _, [] => []
  | j, w :: r => chunkOf x j w ++ chunksOf x (j + 1) r
noncomputable def drawGo : List (List Nat) → List Int → List (List Nat) → List Nat → List (List Nat) × List Nat
  | name :: ns, x :: xs, words, text => drawGo ns xs (words ++ freshOf words.length x name) (text ++ chunksOf x 0 (freshOf words.length x name))
  | _, _, words, text => (words, text)

theorem pickG (its : Array Value) (lo hi st : Option Int) (n : Nat) (js : List Nat) (hn : its.size = n) (h : sliceRange (sliceBounds lo hi st n).1 (sliceBounds lo hi st n).2.1 (sliceBounds lo hi st n).2.2 = js) : (slicePick its lo hi st).toList = js.filterMap (its.toList[·]?) := by
  subst hn
  subst h
  simp [slicePick]
section
variable {prog : Program} {A : Around} {E : Value → Shared → Prop} {L : Addr} {m : Str → Option Value} {env : Env}
/-- a comprehension over the signs of a text -/
theorem ListComp_S {elt iter : Expr} {x : Str} {px : Pos} {scope : Scope} {cl : List (Str × Addr)} {pos : Pos} {Q : Value → Shared → Prop} (F₀ : Fr h₀ L s.heap m)
    (hclos : closureFor scope env = pure cl) (hcell : ∀ y ∈ scope.names, y.2 ≠ .cell) (hkind : scope.kind = .function)
    (hnames : ∀ y ∈ scope.names, y.2 = .local → scope.names.lookup y.1 = some .local) (hx : scope.names.lookup x = some .local)
    (h : wpAny (model prog w) A (eval iter env) (fun xv s₁ => ∃ x0 t0 news, xv = .str x0 t0 ∧ A.handled = none ∧ x0.cps.all (· < 128) = true ∧ Fr h₀ L s₁.heap m ∧ News h₀ L s₁.heap news ∧ x0.cps.size ≤ sizeLine ∧
      ∀ s₂ : Shared, (∃ h, s₂ = { s₁ with heap := h }) → LCg.CompRest prog w A h₀ L m env elt x scope cl s₂ (fun _ => True) (SignAt x0) (LCg.FinE h₀ L m s₂ Q) x0.cps.size 0 [] news) E s)
    (hs : ∀ x, foldedSetIterable iter env x = pure x := by intro _; rfl) :
    wpAny (model prog w) A (eval (.ListComp elt [⟨.Name x px, iter, [], 0⟩] scope pos) env) Q E s := by
  rw [eval_ListComp]
  refine wpAny_comprehension_free (use := none) rfl hs hclos hkind hnames (wpAny_mono h (fun xv s₁ h₁ => ?_) fun _ _ e => e)
  refine byG fun G9 k9 => ?_; rcases h₁ with ⟨x0, t0, news, rfl, hh, ha, F, N, hsz, R⟩; all_goals (refine k9 ?_; clear k9 G9)
  refine wpAny_pyIter_ascii ha ?_
  refine LCg.block_U (Walks.strAscii hh s₁.heap.objs.size x0 t0) hsz (fun i h st => by obtain ⟨o, e, _⟩ := st; exact ⟨o, e⟩) (fun i h h' o nw st e e' _ _ _ => by obtain ⟨o', q, r⟩ := st; rw [e] at q; cases q; exact ⟨o, e', r⟩) hcell hkind hx ⟨_, Heap.get?_push_size _ rfl, rfl, rfl⟩ (fun b hb => ?_)
    (F.keeps fun _ _ e => Heap.get?_push_of_some _ e) (N.grown fun _ _ e => Heap.get?_push_of_some _ e) (Nat.ne_of_lt F.ns.lt) (next_is_new F) (fun p hp => Nat.ne_of_lt (Heap.lt_size (N p hp).1)) trivial (R _ ⟨_, rfl⟩) ?_
  · rw [List.mem_singleton.mp hb]
    show s₁.heap.objs.size < (s₁.heap.push _).objs.size
    rw [Heap.size_push]; exact Nat.lt_succ_self _
  · intro D C h tk m' ys news' F' N' o1 hn hC₀ hD₀ hCL hDL hCD offC fin
    refine ⟨m', hn, fun h'' hs'' => fin D h'' tk (F'.change hs'' hCL hC₀) (fun p hp => ?_) o1⟩
    refine ⟨hs''.extBut _ _ ?_ (N' p hp).1, (N' p hp).2⟩
    refine memc hp ?_ fun p hp => ?_
    · exact Ne.symm hCD
    · exact offC p hp
end
theorem drawGo_snoc : ∀ (ns : List (List Nat)) (xs : List Int) (n : List Nat) (x : Int) (w : List (List Nat)) (t : List Nat) (w' : List (List Nat)) (t' : List Nat), ns.length = xs.length → drawGo ns xs w t = (w', t') →
    drawGo (ns ++ [n]) (xs ++ [x]) w t = (w' ++ freshOf w'.length x n, t' ++ chunksOf x 0 (freshOf w'.length x n))
  | [], [], n, x, w, t, w', t', _, h => by
    simp only [drawGo, Prod.mk.injEq] at h
    obtain ⟨rfl, rfl⟩ := h
    rfl
  | [], _ :: _, _, _, _, _, _, _, h, _ => by simp at h
  | _ :: _, [], _, _, _, _, _, _, h, _ => by simp at h
  | a :: ns, b :: xs, n, x, w, t, w', t', hl, h => drawGo_snoc ns xs n x _ _ w' t' (by simpa using hl) h

inductive DrawI (L D7 sc : Addr) (vn : List Value) (i : Nat) (m : Str → Option Value) (news : List (Addr × Obj)) : Prop
  | mk (co : Obj) (aw : Addr) (vw : List Value) (kw : Nat) (words : List (List Nat)) (text : List Nat) (tx : Tok) (xs : List Int) (e : news = [(L + 1, co), (aw, listOf (List.toArray vw) kw), (D7, listOf vn.toArray 0)]) (hco : co.data = .cell (some (.ref aw))) (hL : @LT.lt Nat _ (L + 1) aw) (hv : StrsAre vw (words.map mkS))
    (hx : List.length xs = i) (hd : drawGo (names5.take i) xs [] [] = (words, text)) (hw : words.length ≤ 3 * i) (ht : text.length ≤ 100 * i) (mt : m (Str.ofString "text") = some (.str (mkS text) tx)) (mn : m (Str.ofString "names") = some (.ref D7)) (ms : m (Str.ofString "script") = some (.ref sc))
inductive DrawJ (L aw D7 D9 sc : Addr) (co : Obj) (vw vn : List Value) (kw : Nat) (ot : List (Addr × Obj)) (text : List Nat) (frs : List (List Nat)) (x : Int) (i : Nat) (j : Nat) (m : Str → Option Value) (news : List (Addr × Obj)) : Prop
  | mk (text1 : List Nat) (tx1 tx2 : Tok) (e : news = (L + 1, co) :: (aw, listOf vw.toArray kw) :: (D7, listOf vn.toArray 0) :: ot) (hc : text1 ++ chunksOf x j (frs.drop j) = text ++ chunksOf x 0 frs) (hl : text1.length ≤ 100 * i + 31 * j) (mt : m (Str.ofString "text") = some (.str (mkS text1) tx1))
    (mx : m (Str.ofString "x") = some (.int x tx2)) (mf : m (Str.ofString "fresh") = some (.ref D9)) (mn : m (Str.ofString "names") = some (.ref D7)) (ms : m (Str.ofString "script") = some (.ref sc))
theorem box_len (p : Nat) : (boxC p).length ≤ 6 := by
  unfold boxC
  have h : p % 8 < 8 := by exact (Nat.lt_of_le_of_lt (Nat.le_of_lt_succ (Nat.mod_lt _ (by decide))) (by decide))
  generalize p % 8 = q at h
  match q, h with
  | 0, _ => decide
  | 1, _ => decide
  | 2, _ => decide
  | 3, _ => decide
  | 4, _ => decide
  | 5, _ => decide
  | 6, _ => decide
  | 7, _ => decide
theorem box_ascii (p : Nat) : ∀ c ∈ boxC p, c < 128 := by
  unfold boxC
  have h : p % 8 < 8 := by exact (Nat.lt_of_le_of_lt (Nat.le_of_lt_succ (Nat.mod_lt _ (by decide))) (by decide))
  generalize p % 8 = q at h
  match q, h with
  | 0, _ => decide
  | 1, _ => decide
  | 2, _ => decide
  | 3, _ => decide
  | 4, _ => decide
  | 5, _ => decide
  | 6, _ => decide
  | 7, _ => decide
theorem names_len : ∀ w ∈ names5, w.length ≤ 7 := by decide
theorem names_ascii : ∀ w ∈ names5, ∀ c ∈ w, c < 128 := by decide
theorem fresh_len {n : Nat} {x : Int} {name : List Nat} (h : name ∈ names5) : ∀ w ∈ freshOf n x name, w.length ≤ 7 ∧ ∀ c ∈ w, c < 128 := fun w hw => by
  unfold freshOf at hw
  rcases List.mem_append.mp hw with hw | hw
  · obtain ⟨j, _, rfl⟩ := List.mem_map.mp hw
    exact ⟨Nat.le_succ_of_le (box_len _), box_ascii _⟩
  · rw [List.mem_singleton.mp hw]
    exact ⟨names_len _ h, names_ascii _ h⟩
theorem plain_len : ∀ w : List Nat, (plainW w).length ≤ 2 * w.length
  | [] => Nat.le_refl _
  | c :: r => by
    have ih := plain_len r
    have e : plainW (c :: r) = (if c ∈ [40, 41, 100, 101, 12] then [c] else [92, c]) ++ plainW r := List.flatMap_cons ..
    rw [e, List.length_append, List.length_cons]
    split
    · rw [List.length_singleton]; exact ar125 ih
    · show 2 + _ ≤ _; exact ar126 ih
theorem repl_len2 {p z : List Nat} (hz : z.length ≤ 2) : ∀ (l : List Nat) (sk : Nat), (replL p z sk l).length ≤ 2 * l.length
  | [], _ => by simp [replL]
  | c :: r, 0 => by
    rw [replL]
    split
    · have := repl_len2 (p := p) hz r (p.length - 1)
      rw [List.length_append, List.length_cons]; exact ar127 hz this
    · have := repl_len2 (p := p) hz r 0
      rw [List.length_cons, List.length_cons]; exact ar128 this
  | c :: r, k + 1 => by
    have := repl_len2 (p := p) hz r k
    rw [replL, List.length_cons]; exact ar129 this
theorem quoted_len (w : List Nat) : (quotedW w).length ≤ 4 * w.length + 2 := by
  have h1 := repl_len2 (p := [92]) (z := [92, 92]) (Nat.le_refl _) w 0
  have h2 := repl_len2 (p := [34]) (z := [92, 34]) (Nat.le_refl _) (replL [92] [92, 92] 0 w) 0
  unfold quotedW
  rw [List.length_append, List.length_cons, List.length_singleton]
  exact ar130 h1 h2
theorem signs_occ (c : Nat) : (Builtin.Str.occurrences (Str.ofString "()de\x0c") (mkS [c]) 0 (Str.ofString "()de\x0c").length 1).isEmpty = !decide (c ∈ [40, 41, 100, 101, 12]) := by
  have h := StrLaws.found_one (Str.ofString "()de\x0c") c
  have e : (Str.ofString "()de\x0c").cps.toList = [40, 41, 100, 101, 12] := by decide
  rw [e] at h
  rw [← h, Bool.not_not]
  rfl
theorem item_sep {q : Nat} (h : q < 4) : Txt.item (Str.ofString " \t\n\x0d") (q : Int) = mkS [[32, 9, 10, 13].getD q 0] := by
  match q, h with
  | 0, _ => decide
  | 1, _ => decide
  | 2, _ => decide
  | 3, _ => decide
theorem any_toks {α : Type} {M : Model} {A : Around} {t : Sem α} {Q : α → Shared → Prop} {E : Value → Shared → Prop} {h : Heap} {gs : Array GenState} {d : Drawn} {X : Nat} {o : OsState} (k : ∀ tk, wpAny M A t Q E ⟨h, gs, d, tk, o⟩) : wpAny M A t Q E ⟨h, gs, d, X, o⟩ := k X
section
variable {prog : Program} {A : Around} {E : Value → Shared → Prop} {x y z : Str} {a b c : List Nat} {t u v : Tok}
theorem add_mk {w : World} {s : Shared} {Q : Value → Shared → Prop} (hx : x = mkS a) (hy : y = mkS b) (hsz : a.length + b.length ≤ 1000) (h : ∀ t' k, Q (.str (mkS (a ++ b)) t') { s with toks := k }) : wpAny (model prog w) A (binaryOp .Add (.str x t) (.str y u)) Q E s := by
  subst hx; subst hy
  exact SBL.add (fun t' k _ => by rw [mkS_app]; exact h t' k) (by rw [mkS_len, mkS_len, sizeLine_eq]; exact (Nat.le_of_lt (Nat.lt_of_le_of_lt hsz (by decide : 1000 < 16777216))))
theorem iadd_mk {w : World} {s : Shared} {Q : Value → Shared → Prop} (hx : x = mkS a) (hy : y = mkS b) (hsz : a.length + b.length ≤ 1000) (h : ∀ t' k, Q (.str (mkS (a ++ b)) t') { s with toks := k }) : wpAny (model prog w) A (inplaceOp .Add (.str x t) (.str y u)) Q E s := by
  subst hx; subst hy
  exact SBL.iadd (fun t' k _ => by rw [mkS_app]; exact h t' k) (by rw [mkS_len, mkS_len, sizeLine_eq]; exact (Nat.le_of_lt (Nat.lt_of_le_of_lt hsz (by decide : 1000 < 16777216))))
/-- str.replace; the tokens do not fall -/
theorem repl_mk {w : World} {s : Shared} {Q : Value → Shared → Prop} (hx : x = mkS a) (hy : y = mkS b) (hz : z = mkS c) (hb1 : 1 ≤ b.length) (hu : 0 < u) (hv : 0 < v) (huv : @Ne Nat u v) (hyz : (y == z) = false) (hl : a.length ≤ 1000) (hcl : c.length ≤ 14)
    (h : ∀ t' k, s.toks ≤ k → Q (.str (mkS (replL b c 0 a)) t') { s with toks := k }) : wpAny (model prog w) A (call (.builtin "str.replace") [.str x t, .str y u, .str z v]) Q E s := by
  subst hx; subst hy; subst hz
  have hfit : (mkS a).length + ((mkS a).length + 1) * (mkS c).length ≤ 16777216 := by
    rw [mkS_len, mkS_len]
    have h1 : (a.length + 1) * c.length ≤ (a.length + 1) * 14 := Nat.mul_le_mul_left _ hcl
    exact ar135 hl h1
  have hlong : Builtin.Str.tooLong ((mkS a).length + (Builtin.Str.occurrences (mkS a) (mkS b) 0 (mkS a).length ((mkS a).length + 1)).length * (mkS c).length) = false := by
    have h1 := StrLaws.occ_length_le (mkS a) (mkS b) 0 (mkS a).length ((mkS a).length + 1)
    have h2 := Nat.mul_le_mul_right (mkS c).length h1
    unfold Builtin.Str.tooLong
    refine decide_eq_false ?_
    rw [sizeLine_eq]
    exact ar136 hfit h2
  have hr := replaced a b c hb1
  refine call_gives F.slot_str_replace (typeIs_str _ _ _) F.entry_str_replace (F.args_str_replace_3 _ _ _) (gives_str_replace (mkS a) (mkS b) (mkS c) t u v fun _ => ⟨by
      have h1 : (u == 0) = false := beq_eq_false_iff_ne.mpr (Nat.ne_of_gt hu)
      have h2 : (v == 0) = false := beq_eq_false_iff_ne.mpr (Nat.ne_of_gt hv)
      rw [h1, h2]; rfl, beq_eq_false_iff_ne.mpr huv, hyz, hlong⟩) ?_
  unfold Txt.replace at hr
  split
  · rename_i hc
    rw [if_pos hc] at hr
    have := h t s.toks (Nat.le_refl _)
    rw [← hr] at this
    exact this
  · rename_i hc
    rw [if_neg hc] at hr
    refine ⟨fits_replaced (mkS b) hfit, ?_⟩
    rw [hr]
    exact h _ _ (Nat.le_succ _)
end
def CompSrcS (prog : Program) (w : World) (A : Around) (h₀ : Heap) (L : Addr) (m : Str → Option Value) (env : Env) (elt : Expr) (x : Str) (scope : Scope) (cl : List (Str × Addr)) (Fin : Shared → List Value → List (Addr × Obj) → Prop) (xv : Value) (s₁ : Shared) : Prop :=
  ∃ x0 t0 news, xv = .str x0 t0 ∧ A.handled = none ∧ x0.cps.all (· < 128) = true ∧ Fr h₀ L s₁.heap m ∧ News h₀ L s₁.heap news ∧ x0.cps.size ≤ sizeLine ∧
      ∀ s₂ : Shared, (∃ h, s₂ = { s₁ with heap := h }) → LCg.CompRest prog w A h₀ L m env elt x scope cl s₂ (fun _ => True) (SignAt x0) (Fin s₂) x0.cps.size 0 [] news
theorem ListComp_S2 {w : World} {h₀ : Heap} {prog : Program} {A : Around} {E : Value → Shared → Prop} {s : Shared} {L : Addr} {m : Str → Option Value} {env : Env} {elt iter : Expr} {x : Str} {px : Pos} {scope : Scope} {cl : List (Str × Addr)} {pos : Pos} {Q : Value → Shared → Prop} (F₀ : Fr h₀ L s.heap m)
    (hclos : closureFor scope env = pure cl) (hcell : ∀ y ∈ scope.names, y.2 ≠ .cell) (hkind : scope.kind = .function)
    (hnames : ∀ y ∈ scope.names, y.2 = .local → scope.names.lookup y.1 = some .local) (hx : scope.names.lookup x = some .local)
    (h : wpAny (model prog w) A (eval iter env) (CompSrcS prog w A h₀ L m env elt x scope cl (fun s₂ => LCg.FinE h₀ L m s₂ Q)) E s)
    (hs : ∀ x, foldedSetIterable iter env x = pure x := by intro _; rfl) :
    wpAny (model prog w) A (eval (.ListComp elt [⟨.Name x px, iter, [], 0⟩] scope pos) env) Q E s :=
  ListComp_S F₀ hclos hcell hkind hnames hx h hs
theorem stf1h_0 {x0 x1 x2 x3 x4 x5 x6 x7 x8 x9 x10 x11 x12 x13} (h : CompSrcS x0 x1 x2 x3 x4 x5 x6 x7 x8 x9 x10 x11 x12 x13) : CompSrcS x0 x1 x2 x3 x4 x5 x6 x7 x8 x9 x10 x11 x12 x13 := h
local macro_rules | `(tactic| walk_at "mine stop") => `(tactic| with_reducible refine stf1h_0 ?_)
theorem strs_append : ∀ {us vs : List Value} {a b : List Str}, StrsAre us a → StrsAre vs b → StrsAre (us ++ vs) (a ++ b)
  | _, _, _, _, .nil, h => h
  | _, _, _, _, .cons y u h, k => .cons y u (strs_append h k)
noncomputable def signP (c : Nat) : List Nat := if c ∈ [40, 41, 100, 101, 12] then [c] else [92, c]
theorem signP_len (c : Nat) : (signP c).length ≤ 2 := by unfold signP; split <;> simp
theorem plain_flat (w : List Nat) : (w.map signP).flatten = plainW w := by
  unfold plainW signP
  rw [List.flatMap_def]
theorem flat_le (w : List Nat) : ∀ l ∈ w.map signP, l.length ≤ 2 := fun l hl => by
  obtain ⟨c, _, rfl⟩ := List.mem_map.mp hl
  exact signP_len c
theorem stf1h_1 {x0 x1 x2 x3 x4 x5 x6 x7 x8} (h : wpAny x0 x1 (binaryOp Operator.Add (Value.str x2 x3) (Value.str x4 x5)) x6 x7 x8) : wpAny x0 x1 (binaryOp Operator.Add (Value.str x2 x3) (Value.str x4 x5)) x6 x7 x8 := h
theorem stf1h_2 {x0 x1 x2 x3 x4 x5 x6 x7 x8} (h : wpAny x0 x1 (inplaceOp Operator.Add (Value.str x2 x3) (Value.str x4 x5)) x6 x7 x8) : wpAny x0 x1 (inplaceOp Operator.Add (Value.str x2 x3) (Value.str x4 x5)) x6 x7 x8 := h
theorem stf1h_3 {x0 x1 x2 x3 x4 x5 x6 x7 x8 x9 x10} (h : wpAny x0 x1 (subscriptTail x2 x3 (Value.str x4 x5) (Value.int x6 x7)) x8 x9 x10) : wpAny x0 x1 (subscriptTail x2 x3 (Value.str x4 x5) (Value.int x6 x7)) x8 x9 x10 := h
local macro_rules | `(tactic| walk_at "mine stop") => `(tactic| with_reducible first | refine stf1h_1 ?_ | refine stf1h_2 ?_ | refine stf1h_3 ?_)
set_option maxHeartbeats 4000000 in
theorem drawn_spec {sc : Addr} {vs : List Value} {ns : List Int}
    (k₀ : h₀.StaysIn s.heap) (X : (hd.heap_39 w.params).In h₀) (T : TopRead pp loose mg mb h₀) (hroom : dp + 2 < recursionLimit)
    (hl : s.heap.IsList sc vs.toArray) (hi : IntsAre vs ns) (hnl : ns.length ≤ 63)
    (h : ∀ h' tk g' T an aw vn vw n1 n2 t xs words text, s.heap.StaysIn h' → (AllBare s.gens → AllBare g') → s.heap.get? T = none → s.heap.get? an = none → s.heap.get? aw = none → IsTup h' T #[.ref an, .ref aw, .str (mkS text) t] →
      h'.get? an = some (listOf (List.toArray vn) n1) → h'.get? aw = some (listOf (List.toArray vw) n2) → StrsAre vn ((names5.take (4 + ns.length % 2)).map mkS) → StrsAre vw (words.map mkS) → List.length xs = 4 + ns.length % 2 → drawGo (names5.take (4 + ns.length % 2)) xs [] [] = (words, text) →
      Q (.ref T) { s with heap := h', toks := tk, gens := g' }) :
    wpAny (model PR w) (AA dp un fr gd) (call (.ref 130) [.ref sc]) Q NoE s := by
  refine' enterC (binds := [(Str.ofString "script", .ref sc)]) [] k₀ X T (fun _ q => nomatch q) ?ho ?hcd ?hroom ?hb ?hkind ?hnd ?_ ?c2 ?c3 ?c4
  case ho => k_is
  case hcd => k_is
  case hroom => show dp < recursionLimit; exact (Nat.lt_trans (Nat.lt_add_of_pos_right (by decide)) hroom)
  case hb => exact BindsTo.of_eq rfl
  case hkind => rfl
  case hnd => decide
  case c2 => rfl
  case c3 => rfl
  case c4 => rfl
  intro g L h₁ tk cells kg bg og F N CA Xg Tg lg
  have hlg : g.IsList sc vs.toArray := stays_list (But.nil bg) hl
  have hvs : vs.length = ns.length := hi.length
  clear k₀ X T kg og hl
  k_cells CA
  simp only [List.append_nil, List.cons_append, List.nil_append] at N
  show wpAny _ _ _ _ _ _
  k_fold
  walk_at "mine go"
  rename Fr _ _ _ _ => F1
  rename News _ _ _ _ => N1
  rename_i nl0 _ l1
  have hE : (4 : Int) + Int.fmod (vs.toArray.size : Int) 2 = ((4 + ns.length % 2 : Nat) : Int) := by rw [Int.fmod_eq_emod_of_nonneg _ (by decide), List.size_toArray, hvs]; exact ar112
  try dsimp only
  refine kba_turn (value' := Expr.Name (Str.ofString "_") ⟨0, 0, 0, 0⟩) (fun _ => rfl) ?_
  refine slice3_own (zs := [Value.str (Str.ofString "( ") tk, Value.str (Str.ofString "\\)(\t") (tk + 1), Value.str (Str.ofString "\"\\\")\"(\x0c") (tk + 1 + 1), Value.str (Str.ofString "(d\\\\") (tk + 1 + 1 + 1), Value.str (Str.ofString "\\\"(e") (tk + 1 + 1 + 1 + 1)].take (4 + ns.length % 2)) F1 N1 (isList_news (l := [_, _, _, _, _]) N1 (.head _)) .none (.int _ _) .none (by decide) ?_ (by show 5 ≤ _; rw [sizeLine_eq]; decide) (fun D7 h7 F7 N7 l7 => ?_) (by with_unfolding_all rfl) (by intro _; with_unfolding_all rfl)
  · rw [hE]
    rcases (show ns.length % 2 = 0 ∨ ns.length % 2 = 1 by exact ar90) with h2 | h2
    · rw [h2]; exact pickG _ _ _ _ 5 [0, 1, 2, 3] rfl (by decide)
    · rw [h2]; exact pickG _ _ _ _ 5 [0, 1, 2, 3, 4] rfl (by decide)
  have hnm : StrsAre ([Value.str (Str.ofString "( ") tk, Value.str (Str.ofString "\\)(\t") (tk + 1), Value.str (Str.ofString "\"\\\")\"(\x0c") (tk + 1 + 1), Value.str (Str.ofString "(d\\\\") (tk + 1 + 1 + 1), Value.str (Str.ofString "\\\"(e") (tk + 1 + 1 + 1 + 1)].take (4 + ns.length % 2)) ((names5.take (4 + ns.length % 2)).map mkS) := by
    rw [List.map_take]
    exact strs_take _ (.cons _ _ (.cons _ _ (.cons _ _ (.cons _ _ (.cons _ _ .nil)))))
  generalize ([Value.str (Str.ofString "( ") tk, Value.str (Str.ofString "\\)(\t") (tk + 1), Value.str (Str.ofString "\"\\\")\"(\x0c") (tk + 1 + 1), Value.str (Str.ofString "(d\\\\") (tk + 1 + 1 + 1), Value.str (Str.ofString "\\\"(e") (tk + 1 + 1 + 1 + 1)].take (4 + ns.length % 2)) = vn at hnm N7
  clear F1 N1
  walk_at "mine go"
  rename Fr _ _ _ _ => F8
  rename News _ _ _ _ => N8
  rename Obj => co
  rename co.data = _ => hco
  rename _ ∧ _ ∧ _ => l8
  have hnl5 : (names5.take (4 + ns.length % 2)).length = 4 + ns.length % 2 := by
    rw [List.length_take]
    have : names5.length = 5 := rfl
    exact ar113 this
  have hvnl : vn.length = 4 + ns.length % 2 := by rw [hnm.length, List.length_map, hnl5]
  rename D7 < _ ∧ _ => l8
  rename_i aw _ _ _ _ _
  have N9 : News g L _ [(L + 1, co), (aw, listOf (List.toArray ([] : List Value)) 0), (D7, listOf vn.toArray 0)] := fun q hq => N8 q (by
    refine memc hq ?_ fun q hq => ?_
    · exact .tail _ (.tail _ (.tail _ (.head _)))
    · refine memc hq ?_ fun q hq => ?_
      · exact .head _
      · rw [List.mem_singleton.mp hq]; exact .tail _ (.head _))
  have hLa : @LT.lt Nat _ (L + 1) aw := l8.2.2
  have hLn : @LT.lt Nat _ (L + 1) D7 := l7 (L + 1, _) (.tail _ (.head _))
  clear N8 l8 l7 l1
  refine wpAny_For ?_
  walk_at "mine go"
  rename Fr _ _ _ _ => F10
  rename News _ _ _ _ => N10
  rename IsRange _ _ _ _ _ _ _ _ => hr
  rw [List.size_toArray, hvnl] at hr
  refine for_range2 (n := 4 + ns.length % 2) (DrawI L D7 sc vn) rfl
      F10 N10 hr (small_one (by decide) (by decide) (by exact ar114) (by exact ar115)) (by rw [rangeSize_nat]; exact ar116) ⟨co, aw, [], 0, [], [], _, [], rfl, hco, hLa, .nil, rfl, rfl, Nat.le_refl _, Nat.le_refl _, rfl, rfl, rfl⟩ stores_local (fun _ _ q => q) ?_ ?_
  · clear F10 N10 hr hco hLa
    rintro i tp m₁ news₁ ot h12 tk12 gs12 hin ⟨co, aw, vw, kw, words, text, tx, xs, rfl, hco, hLa, hvw, hxl, hdg, hwl, htl, mt, mn, ms⟩ hgs F12 N12 hot
    have e0 : (0 : Int) + (i : Int) * 1 = (i : Int) := by exact ar80
    rw [e0] at F12
    dsimp only [List.cons_append, List.nil_append] at N12
    have hot1 := hot (L + 1, co) (.head _)
    dsimp only at hot1
    have hvwl := hvw.length
    rw [List.length_map] at hvwl
    walk_at "mine go"
    rename Fr _ _ _ _ => F13
    rename News _ _ _ _ => N13
    rename _ ∧ _ ∧ _ => l13
    rename_i bl _

    obtain ⟨tb, hb5⟩ := ints_get (vs := [Value.int 4 tk12, Value.int 9 (tk12 + 1), Value.int 20 (tk12 + 1 + 1), Value.int 26 (tk12 + 1 + 1 + 1), Value.int 23 (tk12 + 1 + 1 + 1 + 1)]) (xs := base5) (i := i) (n := base5.getD i 0) (.cons _ _ (.cons _ _ (.cons _ _ (.cons _ _ (.cons _ _ .nil))))) (getD_some (by show i < 5; exact ar117 hin))
    refine kba_turn (value' := Expr.Name (Str.ofString "_") ⟨0, 0, 0, 0⟩) (fun _ => rfl) (item_nat (isList_news (l := [_, _, _, _, _]) N13 (.head _)) (by exact ar118 hin) hb5 ?_)
    generalize base5.getD i 0 = b5
    have N14 : News g L _ ((L + 1, co) :: (aw, listOf vw.toArray kw) :: (D7, listOf vn.toArray 0) :: ot) := fun q hq => N13 q (.tail _ hq)
    clear N13 l13
    walk_at "mine go"
    rename Fr _ _ _ _ => F15
    rename News _ _ _ _ => N15
    try dsimp only
    refine slice3_own (zs := (slicePick vs.toArray (some (i : Int)) none (some (vn.toArray.size : Int))).toList) F15 N15 (stays_list F15.keep hlg) (.int _ _) .none (.int _ _) (fun q => by injection q with q; rw [List.size_toArray, hvnl] at q; exact ar119 q) rfl (by rw [List.size_toArray, sizeLine_eq]; exact (Nat.le_of_lt (Nat.lt_of_le_of_lt (Nat.le_trans (Nat.le_of_eq hvs) hnl) (by decide : 63 < 16777216)))) (fun D16 h16 F16 N16 l16 => ?_) (by with_unfolding_all rfl) (by intro _; with_unfolding_all rfl)
    have hpk : IntsAre (slicePick vs.toArray (some (i : Int)) none (some (vn.toArray.size : Int))).toList (pickNums ns (some (i : Int)) none (some (vn.toArray.size : Int))) := IntsAre.pick (by assumption) _ _ _
    have hpl := length_pickNums_le (by assumption : IntsAre vs ns) (some (i : Int)) none (some (vn.toArray.size : Int))
    generalize (slicePick vs.toArray (some (i : Int)) none (some (vn.toArray.size : Int))).toList = zs at hpk N16
    generalize pickNums ns (some (i : Int)) none (some (vn.toArray.size : Int)) = zn at hpk hpl
    walk_at "mine go"
    generalize b5 + zn.sum = x at *
    rename Fr _ _ _ _ => F17
    rename News _ _ _ _ => N17
    refine LCg.ListComp_U (F₀ := F17) (by with_unfolding_all rfl) (by decide) (by rfl) (by decide) (by rfl) ?_
    walk_at "mine go"
    have hm4 : Int.fmod x 4 = (((x % 4).toNat : Nat) : Int) := by rw [Int.fmod_eq_emod_of_nonneg _ (by decide)]; exact ar120
    rw [hm4]
    rename Fr _ _ _ _ => F18
    rename News _ _ _ _ => N18
    have hg3 : gapOf x < 3 := by
      unfold gapOf
      have h4 : (x % 4).toNat < 4 := by exact ar121
      generalize (x % 4).toNat = q at h4
      match q, h4 with
      | 0, _ => decide
      | 1, _ => decide
      | 2, _ => decide
      | 3, _ => decide
    rename_i tk0 _ gl _ l18
    obtain ⟨tg, hg4⟩ := ints_get (vs := [Value.int 0 tk0, Value.int 0 (tk0 + 1), Value.int 1 (tk0 + 1 + 1), Value.int 2 (tk0 + 1 + 1 + 1)]) (xs := intsOf [0, 0, 1, 2]) (i := (x % 4).toNat) (n := ((gapOf x : Nat) : Int)) (.cons _ _ (.cons _ _ (.cons _ _ (.cons _ _ .nil)))) (by
      unfold gapOf
      have h4 : (x % 4).toNat < 4 := by exact ar121
      generalize (x % 4).toNat = q at h4
      match q, h4 with
      | 0, _ => rfl
      | 1, _ => rfl
      | 2, _ => rfl
      | 3, _ => rfl)
    refine kba_turn (value' := Expr.Name (Str.ofString "_") ⟨0, 0, 0, 0⟩) (fun _ => rfl) (item_nat (isList_news (l := [_, _, _, _]) N18 (.head _)) (by exact ar122) hg4 ?_)
    have N19 : News g L _ ((L + 1, co) :: (aw, listOf vw.toArray kw) :: (D7, listOf vn.toArray 0) :: ot) := fun q hq => N18 q (.tail _ (.tail _ hq))
    clear N18 l18
    generalize hgx : gapOf x = gx at *
    walk_at "mine go"
    rename Fr _ _ _ _ => F20
    rename News _ _ _ _ => N20
    rename IsRange _ _ _ _ _ _ _ _ => hr
    refine LCg.CompSrc.range (n := gx) rfl F20 N20 hr (small_one (by decide) (by decide) (by exact ar77) (by exact ar123 hg3)) (by rw [rangeSize_nat]; exact ar79) (by rw [sizeLine_eq]; exact (Nat.le_of_lt (Nat.lt_trans hg3 (by decide : 3 < 16777216)))) fun g' => ?_
    refine comp_own (fun j ys nw => nw = ((L + 1, co) :: (aw, listOf vw.toArray kw) :: (D7, listOf vn.toArray 0) :: ot) ∧ StrsAre ys (((List.range j).map fun p => boxC (words.length + p)).map mkS)) ?_ ?_ _ 0 [] _ (Nat.zero_add _) ⟨rfl, .nil⟩
    · rintro j ys nw hjn ⟨rfl, hys⟩ v I oI C oC D m₂ h3 tk3 ⟨t3, rfl⟩ hC hx F3 N3 off ne
      rw [Int.zero_add] at hx
      walk_at "mine go"
      have ea : ((vw.toArray.size : Int) + (j : Int)) = ((words.length + j : Nat) : Int) := by rw [List.size_toArray]; exact ar124 hvwl
      try rw [ea]
      refine box_spec F3.keep Xg Tg (show dp + 1 < _ by exact ar95 hroom) fun h4 tk4 t4 k4 => ?_
      exact LCg.CompEnd.intro (fr_stays F3 k4) (news_stays N3 k4) _ (fun p hp => hp) off trivial ⟨rfl, by rw [List.range_succ, List.map_append, List.map_append]; exact strs_snoc hys⟩
    · rintro ys nw ⟨rfl, hys⟩
      unfold LCg.FinE
      intro D h5 tk5 F5 N5 o1
      clear hr F20 N20
      have hni : i < names5.length := by show i < 5; exact ar117 hin
      obtain ⟨tn, hvi⟩ := strs_get (i := i) (n := mkS names5[i]) hnm (by
        rw [List.getElem?_map, List.getElem?_take_of_lt (by omega), List.getElem?_eq_getElem hni]; rfl)
      walk_at "mine go"
      refine item_nat (isList_news N5 (.tail _ (.tail _ (.tail _ (.head _))))) (by exact ar118 hin) hvi ?_
      walk_at "mine go"
      rename Fr _ _ _ _ => F6
      rename News _ _ _ _ => N6
      rename_i nl9 _ l9
      have hysl := hys.length
      rw [List.length_map, List.length_map, List.length_range] at hysl
      refine add_own F6 N6 (isList_news N6 (.tail _ (.head _))) (isList_news (l := [_]) N6 (.head _)) (by rw [sizeLine_eq, List.length_singleton]; exact (Nat.le_trans (Nat.add_le_add (Nat.le_trans (Nat.le_of_eq hysl) (Nat.le_of_lt_succ hg3)) (Nat.le_refl 1)) (by decide))) fun D9 h9 F9 N9 l10 => ?_
      have hfr : StrsAre (ys ++ [Value.str (mkS names5[i]) tn]) ((freshOf words.length x names5[i]).map mkS) := by
        unfold freshOf
        rw [hgx, List.map_append]
        exact strs_snoc hys
      have hfl : (ys ++ [Value.str (mkS names5[i]) tn]).length = gx + 1 := by rw [List.length_append, List.length_singleton, hysl]
      generalize ys ++ [Value.str (mkS names5[i]) tn] = yf at hfr hfl N9
      have N10 : News g L h9 ((D9, listOf yf.toArray 0) :: (L + 1, co) :: (aw, listOf vw.toArray kw) :: (D7, listOf vn.toArray 0) :: ot) := fun q hq => N9 q (by
        refine memc hq ?_ fun q hq => ?_
        · exact .head _
        · exact .tail _ (.tail _ (.tail _ hq)))
      have l11 : ∀ p ∈ (L + 1, co) :: (aw, listOf vw.toArray kw) :: (D7, listOf vn.toArray 0) :: ot, @LT.lt Nat _ p.1 D9 := fun p hp => l10 p (.tail _ (.tail _ hp))
      clear N9 N6 l10 l9 F6 hys o1
      walk_at "mine go"
      refine wpAny_For ?_
      walk_at "mine go"
      rename Fr _ _ _ _ => F11
      rename News _ _ _ _ => N11
      refine call_enumerate_list (isList_news N11 (.head _)) fun h12 he hit hsz hk2 => ?_
      walk_at "mine go"
      refine wpAny_pyIter_enum he ?_
      rename_i hB tkB htkB
      dsimp only at he hit hsz hk2
      have F12 := fr_stays F11 hk2
      have N12 := news_stays N11 hk2
      have hDB : @LT.lt Nat _ D9 hB.objs.size := Heap.lt_size (N11 _ (.head _)).1
      have hLB : @LT.lt Nat _ L hB.objs.size := F11.ns.lt
      have hgB : ∀ b : Nat, hB.objs.size ≤ b → g.get? b = none := fun b hb => Heap.get?_none_of_le (Nat.le_trans F11.above (Nat.le_trans (Nat.le_of_lt hLB) hb))
      have hD9 := N12 _ (.head _)
      have hNB : ∀ p ∈ (L + 1, co) :: (aw, listOf vw.toArray kw) :: (D7, listOf vn.toArray 0) :: ot, @LT.lt Nat _ p.1 hB.objs.size := fun p hp => Heap.lt_size (N11 p (.tail _ hp)).1
      have hname : names5[i] ∈ names5 := List.getElem_mem hni
      have hfrl : (freshOf words.length x names5[i]).length = gx + 1 := by
        have := hfr.length
        rw [List.length_map] at this
        exact ar131 hfl this
      have hwb := fresh_len (n := words.length) (x := x) hname
      have hdg2 := drawGo_snoc (names5.take i) xs names5[i] x [] [] words text (by rw [List.length_take, hxl]; exact ar132 hni) hdg
      generalize freshOf words.length x names5[i] = frs at *
      refine for_walkT2 [(D9, listOf yf.toArray 0)] (WalksT.enumerate rfl (hB.objs.size + 1) hB.objs.size D9 (Nat.succ_ne_self _) (Nat.ne_of_lt (Nat.lt_succ_of_lt hDB)) (Nat.ne_of_lt hDB) yf.toArray)
        (DrawJ L aw D7 D9 sc co vw vn kw ot text frs x i) rfl
        F12 (fun q hq => N12 q (.tail _ hq)) ⟨⟨_, he⟩, hit, ⟨_, hD9.1, rfl, _, rfl⟩⟩ ?_ ?_ ?_ ⟨text, _, _, rfl, rfl, by omega, mt, rfl, rfl, mn, ms⟩ stores_local stores_local (fun _ _ q => q) ?_ (fun q hq => by rw [List.mem_singleton.mp hq]; exact hD9) ?_ ?_ ?_ ?_
      · simp only [List.mem_cons, List.not_mem_nil, or_false, not_or]
        exact ⟨Nat.ne_of_lt (Nat.lt_succ_of_lt hLB), Nat.ne_of_lt hLB, Ne.symm hD9.2.1⟩
      · intro q hq
        simp only [List.mem_cons, List.not_mem_nil, or_false, not_or]
        exact ⟨Nat.ne_of_lt (Nat.lt_succ_of_lt (hNB q hq)), Nat.ne_of_lt (hNB q hq), Nat.ne_of_lt (l11 q hq)⟩
      · intro b hb
        refine memc hb ?_ fun b hb => ?_
        · exact hgB _ (Nat.le_succ _)
        refine memc hb ?_ fun b hb => ?_
        · exact hgB _ (Nat.le_refl _)
        cases hb
      · rintro j vals ⟨t, x, _, rfl⟩
        exact ⟨_, _, rfl⟩
      · intro q hq
        rw [List.mem_singleton.mp hq]
        simp only [List.mem_cons, List.not_mem_nil, or_false, not_or]
        exact ⟨Nat.ne_of_lt (Nat.lt_succ_of_lt hDB), Nat.ne_of_lt hDB⟩
      · intro q hq
        rw [List.mem_singleton.mp hq]
        intro hm
        obtain ⟨p, hp, e⟩ := List.mem_map.mp hm
        exact Nat.ne_of_lt (l11 p hp) e
      · clear F11 N11 F12 N12 he hit hsz hk2
        rintro j a b m₁ news₁ ot2 h13 tk13 gs13 hjn ⟨tj, y, hy, hab⟩ ⟨text1, tx1, tx2, rfl, hch, htl1, mt1, mx1, mf1, mn1, ms1⟩ hgs13 F13 N13 hot2
        obtain ⟨rfl, rfl⟩ : a = .int (j : Int) tj ∧ b = y := by simpa using hab
        have hjf : j < frs.length := by rw [hfrl, ← hfl]; simpa using hjn
        obtain ⟨tw, htw⟩ := strs_get (i := j) (n := mkS frs[j]) hfr (by simp [hjf])
        obtain rfl : b = .str (mkS frs[j]) tw := Option.some.inj ((by simpa using hy : yf[j]? = some b).symm.trans htw)
        rw [List.drop_eq_getElem_cons hjf] at hch
        have hwj := hwb frs[j] (List.getElem_mem hjf)
        generalize frs[j] = wd at *
        have hx8 : Int.fmod (Int.fdiv x 8) 4 = (((x / 8 % 4).toNat : Nat) : Int) := by rw [Int.fmod_eq_emod_of_nonneg _ (by decide), Int.fdiv_eq_ediv_of_nonneg _ (by decide)]; exact ar133
        have hx4 : Int.fmod (Int.fdiv x 4 + (j : Int)) 2 = (x / 4 + (j : Int)) % 2 := by rw [Int.fmod_eq_emod_of_nonneg _ (by decide), Int.fdiv_eq_ediv_of_nonneg _ (by decide)]
        have hq4 : (x / 8 % 4).toNat < 4 := by exact ar134
        obtain ⟨rst, hrst⟩ : ∃ r, r = ot ++ ot2 := ⟨_, rfl⟩
        have N14 : News g L h13 ((L + 1, co) :: (aw, listOf vw.toArray kw) :: (D7, listOf vn.toArray 0) :: rst) := by rw [hrst]; exact N13
        clear N13
        walk_at "mine go"
        all_goals try (first | exact Value.none | exact Str.ofString "" | exact (0 : Nat))
        · rename _ = (1 : Int) => h1
          rw [hx4] at h1
          refine ListComp_S2 (F₀ := F13) (by with_unfolding_all rfl) (by decide) (by rfl) (by decide) (by rfl) ?_
          walk_at "mine go"
          refine ⟨mkS wd, tw, _, rfl, rfl, mkS_ascii hwj.2, F13, N14, (by show wd.length ≤ _; rw [sizeLine_eq]; exact ar137 hwj), fun s₂ ⟨g', e⟩ => ?_⟩
          subst e
          refine comp_own (fun k ys nw => nw = ((L + 1, co) :: (aw, listOf vw.toArray kw) :: (D7, listOf vn.toArray 0) :: rst) ∧ StrsAre ys (((wd.take k).map signP).map mkS)) ?_ ?_ _ 0 [] _ (Nat.zero_add _) ⟨rfl, .nil⟩
          · rintro k ys nw hkn ⟨rfl, hys⟩ v I oI C oC D m₂ h3 tk3 ⟨c, u, hc, rfl⟩ hC hx F3 N3 off ne
            have hck : wd[k]? = some c := by simpa [mkS] using hc
            have hkl : k < wd.length := hkn
            have hce : wd[k] = c := by rw [List.getElem?_eq_getElem hkl] at hck; exact Option.some.inj hck
            have hx' : m₂ (Str.ofString "sign") = some (.str (mkS [c]) u) := hx
            clear hx
            have htk : (wd.take (k + 1)).map signP = (wd.take k).map signP ++ [signP c] := by rw [List.take_succ_eq_append_getElem hkl, List.map_append, hce]; rfl
            walk_at "mine go"
            · rename (List.isEmpty _) = true => hs
              rw [signs_occ] at hs
              have hcn : c ∉ [40, 41, 100, 101, 12] := by simpa using hs
              have hsc : signP c = [92] ++ [c] := if_neg hcn
              rw [hsc] at htk
              refine add_mk (a := [92]) (b := [c]) rfl rfl (by simp) fun t4 k4 => ?_
              exact LCg.CompEnd.intro F3 N3 _ (fun p hp => hp) off trivial ⟨rfl, by rw [htk, List.map_append]; exact strs_snoc hys⟩
            · rename (List.isEmpty _) = false => hs
              rw [signs_occ] at hs
              have hcn : c ∈ [40, 41, 100, 101, 12] := by rw [Bool.not_eq_false'] at hs; exact of_decide_eq_true hs
              have hsc : signP c = [c] := if_pos hcn
              rw [hsc] at htk
              exact LCg.CompEnd.intro F3 N3 _ (fun p hp => hp) off trivial ⟨rfl, by rw [htk, List.map_append]; exact strs_snoc hys⟩
          · rintro ys nw ⟨rfl, hys⟩
            unfold LCg.FinE
            intro D h5 tk5 F5 N5 o1
            have hwz : (mkS wd).cps.size = wd.length := rfl
            rw [hwz, List.take_length] at hys
            walk_at "mine go"
            refine join_own (vs := ys) (acc := wd.map signP) (B := 2) ⟨_, (N5 (D, _) (.head _)).1, rfl, _, rfl⟩ hys (flat_le wd) (by rw [List.length_map]; exact ar138 hwj) fun t6 k6 => ?_
            rw [plain_flat]
            have hpl := plain_len wd
            have hch2 : chunkOf x j wd = plainW wd ++ [[32, 9, 10, 13].getD (x / 8 % 4).toNat 0] := by unfold chunkOf; rw [if_pos h1]
            have N6 : News g L h5 ((L + 1, co) :: (aw, listOf vw.toArray kw) :: (D7, listOf vn.toArray 0) :: rst) := fun q hq => N5 q (.tail _ hq)
            clear N5 F13 N14 hys o1
            walk_at "mine go"
            rw [hx8]
            refine item_str (by simp [fitsSsize]; exact ar139) (by exact ar140) (by show ((x / 8 % 4).toNat : Int) < 4; exact ar141) (fun _ => ?_) (by with_unfolding_all rfl) (by intro _; with_unfolding_all rfl)
            rw [item_sep hq4]
            walk_at "mine go"
            refine add_mk (a := plainW wd) (b := [[32, 9, 10, 13].getD (x / 8 % 4).toNat 0]) rfl rfl (by rw [List.length_singleton]; exact ar142 hwj hpl) fun t7 k7 => ?_
            rw [← hch2]
            have hcl : (chunkOf x j wd).length ≤ 31 := by rw [hch2, List.length_append, List.length_singleton]; exact ar143 hwj hpl
            walk_at "mine go"
            refine iadd_mk (a := text1) (b := chunkOf x j wd) rfl rfl (by exact ar144 hin hg3 hfrl htl1 hjf hcl) fun t8 k8 => ?_
            refine any_toks fun tk9 => ?_
            walk1
            walk_at "mine go"
            rename Fr _ _ _ _ => F9
            rename News _ _ _ _ => N9
            try dsimp only
            refine ⟨_, _, gs13, _, (L + 1, co) :: (aw, listOf vw.toArray kw) :: (D7, listOf vn.toArray 0) :: ot, rfl, hgs13, F9, (by rw [hrst] at N9; exact N9), rfl, text1 ++ chunkOf x j wd, _, _, rfl, ?_, by rw [List.length_append]; exact ar145 htl1 hcl, rfl, mx1, mf1, mn1, ms1⟩
            rw [← hch, chunksOf, List.append_assoc]
        · rename _ ≠ (1 : Int) => h1
          rw [hx4] at h1
          have hch2 : chunkOf x j wd = quotedW wd ++ [[32], [], [10], [13]].getD (x / 8 % 4).toNat [] := by unfold chunkOf; rw [if_neg h1]
          refine repl_mk (a := wd) (b := [92]) (c := [92, 92]) rfl rfl rfl (by decide) (by refine ltN ?_; exact ar146) (by refine ltN ?_; exact ar147) (by exact ar148) (by decide) (by exact ar149 hwj) (by decide) fun t6 k6 hk6 => ?_
          dsimp only at hk6
          walk_at "mine go"
          have hr1 := repl_len2 (p := [92]) (z := [92, 92]) (Nat.le_refl _) wd 0
          have hr2 := repl_len2 (p := [34]) (z := [92, 34]) (Nat.le_refl _) (replL [92] [92, 92] 0 wd) 0
          refine repl_mk (a := replL [92] [92, 92] 0 wd) (b := [34]) (c := [92, 34]) rfl rfl rfl (by decide) (by refine ltN ?_; exact ar150 hk6) (by refine ltN ?_; exact ar146) (by exact Nat.ne_of_lt (Nat.lt_add_of_pos_right (by decide))) (by decide) (by exact ar151 hwj hr1) (by decide) fun t7 k7 hk7 => ?_
          walk_at "mine go"
          refine add_mk (a := [34]) (b := replL [34] [92, 34] 0 (replL [92] [92, 92] 0 wd)) rfl rfl (by rw [List.length_singleton]; exact ar152 hwj hr1 hr2) fun t8 k8 => ?_
          walk_at "mine go"
          refine add_mk (a := [34] ++ replL [34] [92, 34] 0 (replL [92] [92, 92] 0 wd)) (b := [34]) rfl rfl (by rw [List.length_append, List.length_singleton]; exact ar153 hwj hr1 hr2) fun t9 k9 => ?_
          have hqw : [34] ++ replL [34] [92, 34] 0 (replL [92] [92, 92] 0 wd) ++ [34] = quotedW wd := rfl
          rw [hqw]
          have hql := quoted_len wd
          walk_at "mine go"
          rename Fr _ _ _ _ => F9
          rename News _ _ _ _ => N9
          rename _ ∧ _ ∧ _ => l9
          rename_i sl _
          obtain ⟨ts, hsp⟩ := strs_get (vs := [Value.str (Str.ofString " ") k9, Value.str (Str.ofString "") (k9 + 1), Value.str (Str.ofString "\n") (k9 + 1 + 1), Value.str (Str.ofString "\x0d") (k9 + 1 + 1 + 1)]) (xs := [[32], [], [10], [13]].map mkS) (i := (x / 8 % 4).toNat) (n := mkS ([[32], [], [10], [13]].getD (x / 8 % 4).toNat [])) (.cons _ _ (.cons _ _ (.cons _ _ (.cons _ _ .nil)))) (by
            generalize (x / 8 % 4).toNat = q at hq4
            match q, hq4 with
            | 0, _ => rfl
            | 1, _ => rfl
            | 2, _ => rfl
            | 3, _ => rfl)
          have hsl : ([[32], [], [10], [13]].getD (x / 8 % 4).toNat []).length ≤ 1 := by
            generalize (x / 8 % 4).toNat = q at hq4
            match q, hq4 with
            | 0, _ => decide
            | 1, _ => decide
            | 2, _ => decide
            | 3, _ => decide
          rw [hx8]
          refine kba_turn (value' := Expr.Name (Str.ofString "_") ⟨0, 0, 0, 0⟩) (fun _ => rfl) (item_nat (isList_news (l := [_, _, _, _]) N9 (.head _)) (by exact ar154) hsp ?_)
          have N10 : News g L _ ((L + 1, co) :: (aw, listOf vw.toArray kw) :: (D7, listOf vn.toArray 0) :: rst) := fun q hq => N9 q (.tail _ hq)
          clear N9 l9
          walk_at "mine go"
          refine add_mk (a := quotedW wd) (b := [[32], [], [10], [13]].getD (x / 8 % 4).toNat []) rfl rfl (by exact ar155 hwj hql hsl) fun t11 k11 => ?_
          rw [← hch2]
          have hcl : (chunkOf x j wd).length ≤ 31 := by rw [hch2, List.length_append]; exact ar156 hwj hql hsl
          walk_at "mine go"
          refine iadd_mk (a := text1) (b := chunkOf x j wd) rfl rfl (by exact ar144 hin hg3 hfrl htl1 hjf hcl) fun t12 k12 => ?_
          refine any_toks fun tk9 => ?_
          walk1
          walk_at "mine go"
          rename Fr _ _ _ _ => F12
          rename News _ _ _ _ => N12
          try dsimp only
          refine ⟨_, _, gs13, _, (L + 1, co) :: (aw, listOf vw.toArray kw) :: (D7, listOf vn.toArray 0) :: ot, rfl, hgs13, F12, (by rw [hrst] at N12; exact N12), rfl, text1 ++ chunkOf x j wd, _, _, rfl, ?_, by rw [List.length_append]; exact ar145 htl1 hcl, rfl, mx1, mf1, mn1, ms1⟩
          rw [← hch, chunksOf, List.append_assoc]
      · rintro m₁ news₁ h13 tk13 gs13 ⟨text1, tx1, tx2, rfl, hch, htl1, mt1, mx1, mf1, mn1, ms1⟩ hgs13 F13 N13 Nf
        have e9 : yf.toArray.size = frs.length := by rw [List.size_toArray, hfl, hfrl]
        have hch2 : text1 = text ++ chunksOf x 0 frs := by
          rw [e9, List.drop_length] at hch
          rw [← hch]; exact (List.append_nil _).symm
        have N14 : News g L h13 ((D9, listOf yf.toArray 0) :: (L + 1, co) :: (aw, listOf vw.toArray kw) :: (D7, listOf vn.toArray 0) :: ot) := fun q hq => by
          refine memc hq ?_ fun q hq => ?_
          · exact Nf _ (.head _)
          · exact N13 q hq
        clear N13 F11 N11 F12 N12 Nf
        try dsimp only
        walk_at "mine go"
        have hyfl : yf.length ≤ 3 := by exact (Nat.le_trans (Nat.le_trans (Nat.le_of_eq hfl) (Nat.add_le_add (Nat.le_of_lt_succ hg3) (Nat.le_refl 1))) (by decide))
        have hcrl : gx + 1 ≤ 3 := by exact (Nat.le_trans (Nat.add_le_add (Nat.le_of_lt_succ hg3) (Nat.le_refl 1)) (by decide))
        refine add_own F13 N14 (isList_news N14 (.tail _ (.tail _ (.head _)))) (isList_news N14 (.head _)) (by rw [sizeLine_eq]; exact ar157 hin hwl hvwl hg3 hfl) fun D15 h15 F15 N15 l15 => ?_
        have N16 : News g L h15 ((D15, listOf (vw ++ yf).toArray 0) :: (L + 1, co) :: (D7, listOf vn.toArray 0) :: ot) := fun q hq => N15 q (by
          refine memc hq ?_ fun q hq => ?_
          · exact .head _
          · refine memc hq ?_ fun q hq => ?_
            · exact .tail _ (.tail _ (.head _))
            · exact .tail _ (.tail _ (.tail _ (.tail _ hq))))
        have hLD : @LT.lt Nat _ (L + 1) D15 := l15 (L + 1, co) (.tail _ (.head _))
        have hDot : ∀ r ∈ ot, r.1 ≠ D15 := fun r hr => Nat.ne_of_lt (l15 r (.tail _ (.tail _ (.tail _ (.tail _ hr)))))
        clear N15 N14 F13
        walk_at "mine go"
        rename Fr _ _ _ _ => F17
        rename News _ _ _ _ => N17
        rename _ = Data.cell (some (Value.ref D15)) => hd17
        try dsimp only
        refine ⟨_, _, gs13, _, [(L + 1, _), (D15, listOf (vw ++ yf).toArray 0), (D7, listOf vn.toArray 0)], rfl, fun q => hgs13 (hgs q), F17, fun q hq => N17 q ?_, fun q hq => ?_, _, D15, vw ++ yf, 0, words ++ frs, text1, tx1, xs ++ [x], rfl, hd17, hLD, by rw [List.map_append]; exact strs_append hvw hfr, by rw [List.length_append, List.length_singleton, hxl], ?_, by rw [List.length_append]; exact ar158 hwl hg3 hfrl, by rw [e9] at htl1; exact ar159 hg3 hfrl htl1, mt1, mn1, ms1⟩
        · rcases List.mem_append.mp hq with hq | hq
          · refine memc hq ?_ fun q hq => ?_
            · exact .tail _ (.head _)
            · refine memc hq ?_ fun q hq => ?_
              · exact .head _
              · rw [List.mem_singleton.mp hq]; exact .tail _ (.tail _ (.head _))
          · exact .tail _ (.tail _ (.tail _ hq))
        · refine memc hq ?_ fun q hq => ?_
          · exact .inl (.head _)
          · refine memc hq ?_ fun q hq => ?_
            · exact .inr hDot
            · rw [List.mem_singleton.mp hq]; exact .inl (.tail _ (.tail _ (.head _)))
        · rw [List.take_succ_eq_append_getElem hni, hdg2, hch2]
  · rintro m₁ news₁ h12 tk12 gs12 ⟨co, aw, vw, kw, words, text, tx, xs, rfl, hco, hLa, hvw, hxl, hdg, hwl, htl, mt, mn, ms⟩ hgs F12 N12
    clear F10 N10 hr
    try dsimp only
    walk_at "mine go"
    rename Fr _ _ _ _ => F13
    rename News _ _ _ _ => N13
    have none : ∀ a, g.get? a = none → s.heap.get? a = none := fun a ha => by
      cases e : s.heap.get? a with
      | none => rfl
      | some o => have := bg.nil a o e; rw [ha] at this; cases this
    have z0 := N13 _ (.head _)
    have z1 := N13 _ (.tail _ (.tail _ (.head _)))
    have z2 := N13 _ (.tail _ (.tail _ (.tail _ (.head _))))
    dsimp only at z0 z1 z2
    exact h _ _ _ _ D7 aw vn vw _ _ _ xs words text (fun b o e => F13.keep b o (bg.nil b o e)) hgs (none _ z0.2.2) (none _ z2.2.2) (none _ z1.2.2) ⟨_, z0.1, rfl, _, rfl⟩ z2.1 z1.1 hnm hvw hxl hdg
end
-- PL
/-! the plain law: the drawn text is read as it was written -/
theorem repl_one (p : Nat) (z : List Nat) : ∀ l : List Nat, replL [p] z 0 l = l.flatMap fun c => if c = p then z else [c]
  | [] => rfl
  | c :: r => by
    rw [replL, List.flatMap_cons]
    by_cases h : c = p
    · subst h
      rw [if_pos (by simp), if_pos rfl]
      rw [show ([c] : List Nat).length - 1 = 0 from rfl, repl_one c z r]
    · rw [if_neg (by simp; exact fun e => h e.symm), if_neg h, repl_one p z r]
      rfl
noncomputable def escQ (c : Nat) : List Nat := if c = 92 then [92, 92] else if c = 34 then [92, 34] else [c]
theorem quoted_flat : ∀ w : List Nat, replL [34] [92, 34] 0 (replL [92] [92, 92] 0 w) = w.flatMap escQ
  | w => by
    rw [repl_one, repl_one, List.flatMap_assoc]
    congr 1
    funext c
    unfold escQ
    by_cases h : c = 92
    · rw [if_pos h, if_pos h]; rfl
    · rw [if_neg h, if_neg h, List.flatMap_cons, List.flatMap_nil, List.append_nil]
theorem inQ_esc (r : List Nat) : ∀ (w t : List Nat), inQ (w.flatMap escQ ++ 34 :: r) t = (t ++ w, r)
  | [], t => by
    rw [List.flatMap_nil, List.nil_append, inQ_cons, if_pos rfl, List.append_nil]
  | c :: w, t => by
    rw [List.flatMap_cons]
    unfold escQ
    by_cases h : c = 92
    · subst h
      rw [if_pos rfl]
      show inQ (92 :: 92 :: (w.flatMap escQ ++ 34 :: r)) t = _
      rw [inQ_cons, if_neg (by decide), if_pos rfl]
      show inQ (w.flatMap escQ ++ 34 :: r) (t ++ [92]) = _
      rw [inQ_esc r w, List.append_assoc]; rfl
    · rw [if_neg h]
      by_cases h2 : c = 34
      · subst h2
        rw [if_pos rfl]
        show inQ (92 :: 34 :: (w.flatMap escQ ++ 34 :: r)) t = _
        rw [inQ_cons, if_neg (by decide), if_pos rfl]
        show inQ (w.flatMap escQ ++ 34 :: r) (t ++ [34]) = _
        rw [inQ_esc r w, List.append_assoc]; rfl
      · rw [if_neg h2]
        show inQ (c :: (w.flatMap escQ ++ 34 :: r)) t = _
        rw [inQ_cons, if_neg h2, if_neg h, inQ_esc r w, List.append_assoc]; rfl
theorem safe_facts {c : Nat} (h : c ∈ [40, 41, 100, 101, 12]) : isWs c = false ∧ c ≠ 34 ∧ c ≠ 92 := by
  simp only [List.mem_cons, List.not_mem_nil, or_false] at h
  rcases h with rfl | rfl | rfl | rfl | rfl <;> decide
theorem plain_cons (c : Nat) (w : List Nat) : plainW (c :: w) = (if c ∈ [40, 41, 100, 101, 12] then [c] else [92, c]) ++ plainW w := List.flatMap_cons ..
theorem inP_plain {sep : Nat} (hs : isWs sep = true) (r : List Nat) : ∀ (w t : List Nat), inP (plainW w ++ sep :: r) t = (t ++ w, r)
  | [], t => by
    show inP (sep :: r) t = _
    rw [inP_cons, if_pos hs, List.append_nil]
  | c :: w, t => by
    rw [plain_cons]
    by_cases h : c ∈ [40, 41, 100, 101, 12]
    · obtain ⟨h1, h2, h3⟩ := safe_facts h
      rw [if_pos h]
      show inP (c :: (plainW w ++ sep :: r)) t = _
      rw [inP_cons, h1, if_neg (by decide), if_neg h3, inP_plain hs r w, List.append_assoc]; rfl
    · rw [if_neg h]
      show inP (92 :: c :: (plainW w ++ sep :: r)) t = _
      rw [inP_cons, if_neg (by decide), if_pos rfl]
      show inP (plainW w ++ sep :: r) (t ++ [c]) = _
      rw [inP_plain hs r w, List.append_assoc]; rfl
theorem getTok_ws : ∀ (lead r : List Nat), (∀ c ∈ lead, isWs c = true) → getTok (lead ++ r) = getTok r
  | [], _, _ => rfl
  | c :: l, r, h => by
    show getTok (c :: (l ++ r)) = _
    rw [getTok_cons, if_pos (h c (.head _)), getTok_ws l r fun d hd => h d (.tail _ hd)]
theorem getTok_plain {sep : Nat} (hs : isWs sep = true) (r : List Nat) : ∀ w : List Nat, w ≠ [] → getTok (plainW w ++ sep :: r) = (w, r)
  | [], h => absurd rfl h
  | c :: w, _ => by
    rw [plain_cons]
    by_cases h : c ∈ [40, 41, 100, 101, 12]
    · obtain ⟨h1, h2, h3⟩ := safe_facts h
      rw [if_pos h]
      show getTok (c :: (plainW w ++ sep :: r)) = _
      rw [getTok_cons, h1, if_neg (by decide), if_neg h2, if_neg h3, inP_plain hs r w]; rfl
    · rw [if_neg h]
      show getTok (92 :: c :: (plainW w ++ sep :: r)) = _
      rw [getTok_cons, if_neg (by decide), if_neg (by decide), if_pos rfl]
      show inP (plainW w ++ sep :: r) [c] = _
      rw [inP_plain hs r w]; rfl
theorem getTok_quoted (r w : List Nat) : getTok (quotedW w ++ r) = (w, r) := by
  unfold quotedW
  rw [quoted_flat]
  show getTok (34 :: ((w.flatMap escQ ++ [34]) ++ r)) = _
  rw [getTok_cons, if_neg (by decide), if_pos rfl, List.append_assoc]
  exact inQ_esc r w []
inductive IsChunk : List Nat → List Nat → Prop
  | plain {w : List Nat} {sep : Nat} : isWs sep = true → IsChunk w (plainW w ++ [sep])
  | quoted {w s : List Nat} : (∀ c ∈ s, isWs c = true) → IsChunk w (quotedW w ++ s)
theorem chunk_is (x : Int) (j : Nat) (w : List Nat) : IsChunk w (chunkOf x j w) := by
  unfold chunkOf
  have hq : (x / 8 % 4).toNat < 4 := by exact ar134
  generalize (x / 8 % 4).toNat = q at hq
  split
  · exact .plain (match q, hq with
      | 0, _ => by decide
      | 1, _ => by decide
      | 2, _ => by decide
      | 3, _ => by decide)
  · exact .quoted (match q, hq with
      | 0, _ => by decide
      | 1, _ => by decide
      | 2, _ => by decide
      | 3, _ => by decide)
inductive Chunked : List (List Nat) → List Nat → Prop
  | nil : Chunked [] []
  | cons {w c : List Nat} {ws : List (List Nat)} {t : List Nat} : w ≠ [] → IsChunk w c → Chunked ws t → Chunked (w :: ws) (c ++ t)
theorem Chunked.append {ws ws' : List (List Nat)} {t t' : List Nat} (h : Chunked ws t) (h' : Chunked ws' t') : Chunked (ws ++ ws') (t ++ t') := by
  induction h with
  | nil => exact h'
  | cons hw hc _ ih => rw [List.cons_append, List.append_assoc]; exact .cons hw hc ih
theorem chunksOf_is (x : Int) : ∀ (l : List (List Nat)) (j : Nat), (∀ w ∈ l, w ≠ []) → Chunked l (chunksOf x j l)
  | [], _, _ => .nil
  | w :: r, j, h => .cons (h w (.head _)) (chunk_is x j w) (chunksOf_is x r (j + 1) fun v hv => h v (.tail _ hv))
theorem Chunked.lexes {ws : List (List Nat)} {t : List Nat} (h : Chunked ws t) : ∀ lead : List Nat, (∀ c ∈ lead, isWs c = true) → Lexes (lead ++ t) ws [] := by
  induction h with
  | nil =>
    intro lead hl
    have e : getTok (lead ++ []) = ([], []) := getTok_ws lead [] hl
    have := Lexes.nil (cs := lead ++ []) (by rw [e])
    rw [e] at this
    exact this
  | @cons w c ws t hw hc _ ih =>
    intro lead hl
    cases hc with
    | @plain sep hs =>
      have e : getTok (lead ++ (plainW w ++ [sep] ++ t)) = (w, t) := by
        rw [getTok_ws _ _ hl, List.append_assoc]; exact getTok_plain hs t w hw
      have := Lexes.cons (cs := lead ++ (plainW w ++ [sep] ++ t)) (ws := ws) (rest := []) (by rw [e]; exact hw) (by rw [e]; exact ih [] (fun _ q => nomatch q))
      rw [e] at this
      exact this
    | @quoted s hs =>
      have e : getTok (lead ++ (quotedW w ++ s ++ t)) = (w, s ++ t) := by
        rw [getTok_ws _ _ hl, List.append_assoc]; exact getTok_quoted (s ++ t) w
      have := Lexes.cons (cs := lead ++ (quotedW w ++ s ++ t)) (ws := ws) (rest := []) (by rw [e]; exact hw) (by rw [e]; exact ih s hs)
      rw [e] at this
      exact this
theorem fresh_ne {n : Nat} {x : Int} {name : List Nat} (h : name ≠ []) : ∀ w ∈ freshOf n x name, w ≠ [] := fun w hw => by
  unfold freshOf at hw
  rcases List.mem_append.mp hw with hw | hw
  · obtain ⟨j, _, rfl⟩ := List.mem_map.mp hw
    exact fun q => nomatch q
  · rw [List.mem_singleton.mp hw]; exact h
theorem draw_chunked : ∀ (ns : List (List Nat)) (xs : List Int) (ws : List (List Nat)) (t : List Nat), (∀ n ∈ ns, n ≠ []) → Chunked ws t → Chunked (drawGo ns xs ws t).1 (drawGo ns xs ws t).2
  | [], xs, ws, t, _, h => by cases xs <;> exact h
  | _ :: _, [], ws, t, _, h => h
  | n :: ns, x :: xs, ws, t, hn, h => by
    rw [drawGo]
    exact draw_chunked ns xs _ _ (fun m hm => hn m (.tail _ hm)) (h.append (chunksOf_is x _ 0 (fresh_ne (hn n (.head _)))))
theorem pos_nlc : ∀ (l : List Nat) (i : Nat), (((posOf [10] i 0 l).length : Nat) : Int) = nlc l
  | [], _ => rfl
  | c :: r, i => by
    rw [posOf, nlc]
    by_cases h : c = 10
    · subst h
      rw [if_pos (by simp), if_pos rfl, List.length_cons]
      have := pos_nlc r (i + 1)
      rw [show ([10] : List Nat).length - 1 = 0 from rfl]
      exact ar232 this
    · rw [if_neg (by simp; exact fun e => h e.symm), if_neg h]
      have := pos_nlc r (i + 1)
      exact ar233 this
/-- the words, by the gaps -/
noncomputable def wordsG : List (List Nat) → List Nat → List (List Nat) → List (List Nat)
  | name :: ns, g :: gs, ws => wordsG ns gs (ws ++ (((List.range g).map fun j => boxC (ws.length + j)) ++ [name]))
  | _, _, ws => ws
theorem draw_words : ∀ (ns : List (List Nat)) (xs : List Int) (ws : List (List Nat)) (t : List Nat), (drawGo ns xs ws t).1 = wordsG ns (xs.map gapOf) ws
  | [], xs, ws, t => by cases xs <;> rfl
  | _ :: _, [], ws, t => rfl
  | n :: ns, x :: xs, ws, t => by
    rw [drawGo, draw_words ns xs, List.map_cons, wordsG]
    rfl
theorem chunk_len {x : Int} {j : Nat} {w : List Nat} (h : w.length ≤ 7) : (chunkOf x j w).length ≤ 31 := by
  have h1 := plain_len w
  have h2 := quoted_len w
  have hq : (x / 8 % 4).toNat < 4 := by exact ar134
  unfold chunkOf
  generalize (x / 8 % 4).toNat = q at hq
  split
  · rw [List.length_append, List.length_singleton]; exact (Nat.le_trans (Nat.add_le_add (Nat.le_trans h1 (Nat.mul_le_mul (Nat.le_refl 2) h)) (Nat.le_refl 1)) (by decide))
  · have : ([[32], [], [10], [13]].getD q []).length ≤ 1 := match q, hq with
      | 0, _ => by decide
      | 1, _ => by decide
      | 2, _ => by decide
      | 3, _ => by decide
    rw [List.length_append]; exact ar234 h h2 this
theorem chunks_len {x : Int} : ∀ (l : List (List Nat)) (j : Nat), (∀ w ∈ l, w.length ≤ 7) → (chunksOf x j l).length ≤ 31 * l.length
  | [], _, _ => Nat.le_refl _
  | w :: r, j, h => by
    have h1 := chunk_len (x := x) (j := j) (h w (.head _))
    have h2 := chunks_len (x := x) r (j + 1) fun v hv => h v (.tail _ hv)
    rw [chunksOf, List.length_append, List.length_cons]; exact ar235 h1 h2
theorem gap_lt (x : Int) : gapOf x < 3 := by
  unfold gapOf
  have h4 : (x % 4).toNat < 4 := by exact ar121
  generalize (x % 4).toNat = q at h4
  exact match q, h4 with
    | 0, _ => by decide
    | 1, _ => by decide
    | 2, _ => by decide
    | 3, _ => by decide
theorem draw_len : ∀ (ns : List (List Nat)) (xs : List Int) (ws : List (List Nat)) (t : List Nat), (∀ n ∈ ns, n ∈ names5) → (drawGo ns xs ws t).2.length ≤ t.length + 93 * ns.length
  | [], xs, ws, t, _ => by cases xs <;> simp [drawGo]
  | _ :: _, [], ws, t, _ => by simp [drawGo]
  | n :: ns, x :: xs, ws, t, hn => by
    have h1 := draw_len ns xs (ws ++ freshOf ws.length x n) (t ++ chunksOf x 0 (freshOf ws.length x n)) fun m hm => hn m (.tail _ hm)
    have h2 := chunks_len (x := x) (freshOf ws.length x n) 0 fun w hw => (fresh_len (hn n (.head _)) w hw).1
    have h3 : (freshOf ws.length x n).length ≤ 3 := by
      have := gap_lt x
      unfold freshOf
      rw [List.length_append, List.length_map, List.length_range, List.length_singleton]; exact (Nat.le_trans (Nat.add_le_add (Nat.le_of_lt_succ this) (Nat.le_refl 1)) (by decide))
    rw [drawGo, List.length_cons]
    rw [List.length_append] at h1
    exact ar236 h1 h2 h3
theorem draw_wlen : ∀ (ns : List (List Nat)) (xs : List Int) (ws : List (List Nat)) (t : List Nat), (drawGo ns xs ws t).1.length ≤ ws.length + 3 * ns.length
  | [], xs, ws, t => by cases xs <;> simp [drawGo]
  | _ :: _, [], ws, t => by simp [drawGo]
  | n :: ns, x :: xs, ws, t => by
    have h1 := draw_wlen ns xs (ws ++ freshOf ws.length x n) (t ++ chunksOf x 0 (freshOf ws.length x n))
    have h3 : (freshOf ws.length x n).length ≤ 3 := by
      have := gap_lt x
      unfold freshOf
      rw [List.length_append, List.length_map, List.length_range, List.length_singleton]; exact (Nat.le_trans (Nat.add_le_add (Nat.le_of_lt_succ this) (Nat.le_refl 1)) (by decide))
    rw [drawGo, List.length_cons]
    rw [List.length_append] at h1
    exact ar237 h1 h3
theorem draw_ascii : ∀ (ns : List (List Nat)) (xs : List Int) (ws : List (List Nat)) (t : List Nat), (∀ n ∈ ns, n ∈ names5) → (∀ w ∈ ws, ∀ c ∈ w, c < 128) → ∀ w ∈ (drawGo ns xs ws t).1, ∀ c ∈ w, c < 128
  | [], xs, ws, t, _, h => by cases xs <;> exact h
  | _ :: _, [], ws, t, _, h => h
  | n :: ns, x :: xs, ws, t, hn, h => by
    rw [drawGo]
    refine draw_ascii ns xs _ _ (fun m hm => hn m (.tail _ hm)) fun w hw => ?_
    rcases List.mem_append.mp hw with hw | hw
    · exact h w hw
    · exact (fresh_len (hn n (.head _)) w hw).2
theorem strOk_mk {l : List Nat} (h : ∀ c ∈ l, c < 128) : PyData.strOk (mkS l) = true := by
  unfold PyData.strOk
  rw [Array.all_eq_true']
  intro c hc
  have := h c (by simpa [mkS] using hc)
  simp; exact (Nat.lt_trans this (by decide : 128 < 1114112))
theorem news_fresh {g h h' : Heap} {L a : Addr} {o : Obj} {m : Str → Option Value} {news : List (Addr × Obj)} (F : Fr g L h m) (N : News g L h news) (N' : News g L h' news) (e0 : h.get? a = none) (e : h'.get? a = some o) : News g L h' ((a, o) :: news) ∧ ∀ p ∈ news, p.1 ≠ a := by
  refine ⟨fun q hq => ?_, fun p hp q => ?_⟩
  · refine memc hq ?_ fun q hq => ?_
    · refine ⟨e, fun q => ?_, ?_⟩
      · refine byG fun G9 k9 => ?_; rcases F.ns with ⟨oL, es, ep, ho, _⟩; all_goals (refine k9 ?_; clear k9 G9)
        dsimp only at q
        rw [← q, e0] at ho; cases ho
      · cases e2 : g.get? a with
        | none => rfl
        | some o2 => have := F.keep _ _ e2; rw [e0] at this; cases this
    · exact N' q hq
  · have := (N p hp).1
    rw [q, e0] at this; cases this
theorem dat_strs : ∀ {news : List (Addr × Obj)} {vs : List Value} {xs : List Str}, StrsAre vs xs → DatAll news vs (xs.map Dat.str)
  | _, _, _, .nil => .nil
  | _, _, _, .cons x t h => .cons (.str x t) (dat_strs h)
-- M1
/-- what the law's end must show: True, all old objects as they were but for the tables, generators that have ended or wait bare -/
theorem post_true {M : Model} {A : Around} {cd : Code} {s s₁ : Shared} {cw : ClaimW} {cl : Str → Option Addr} {mean : ExcName → Option Value} {args : List WData} {tabs : List (Addr × Addr)} (hT : TabsAt tabs s₁.heap) (hr : ∀ a x, cw.raises a x = false) (hp : cw.post args (.bool true) args = true)
    (h : codeAny M A cd (fun r s' => (r = .ok (.ret (.bool true)) ∧ (ghostOf s₁.heap tabs).StaysIn s'.heap ∧ s'.os = s₁.os ∧ AllBare s'.gens) ∧ GrownAll tabs s'.heap) s) : codeAny M A cd (GoodWG cw cl mean args s₁) s := by
  refine codeAny_mono h fun r s' ⟨⟨e, k, ho, hb⟩, hg⟩ => ?_
  have tab : ∀ b o, s₁.heap.get? b = some o → b ∈ tabs.map (·.2) → isCodeTable s₁.heap b ∧ o = tabObj #[] ∧ ∃ ps, s'.heap.get? b = some (tabObj ps) := fun b o eb hm => by
    obtain ⟨q, hq, rfl⟩ := List.mem_map.mp hm
    have z := hT q hq
    exact ⟨(z.1.tab z.2).isCodeTable, Option.some.inj (eb.symm.trans z.2), hg.get q hq⟩
  have rest : ∀ b o, s₁.heap.get? b = some o → b ∉ tabs.map (·.2) → s'.heap.get? b = some o := fun b o eb hm => k b o (ghost_ne eb hm)
  refine ⟨.inl ⟨.bool true, .bool true, [], e, hr args, .bool true, hp, fun _ => ⟨List.nodup_nil, fun _ q => absurd q List.not_mem_nil⟩⟩, ⟨fun b o eb => ?_, fun b o eb => ?_⟩, ho, hb⟩
  · by_cases hm : b ∈ tabs.map (·.2)
    · obtain ⟨z1, z2, ps, z3⟩ := tab b o eb hm
      subst z2
      exact .inr (.inl ⟨z1, rfl, #[], ps, rfl, by rw [Array.empty_append]; exact z3⟩)
    · exact .inl (rest b o eb hm)
  · by_cases hm : b ∈ tabs.map (·.2)
    · obtain ⟨_, _, ps, z3⟩ := tab b o eb hm
      exact ⟨_, z3⟩
    · exact ⟨o, rest b o eb hm⟩
local macro_rules | `(tactic| walk_at "mine go") => `(tactic| repeat' (first
  | (walk_at "mine step")
  | ((fail_if_success (walk_at "mine stop")); first | walk1 | (dsimp only; walk1) | (k_unfold; (try dsimp only)))))
noncomputable def pick {α : Type} (a0 : α) (P : α → Prop) : α := @Classical.epsilon α ⟨a0⟩ fun a => ¬ P a
theorem pick_all {α : Type} {a0 : α} {P : α → Prop} (h : P (pick a0 P)) (a : α) : P a := Classical.byContradiction fun n => Classical.epsilon_spec (p := fun a => ¬ P a) ⟨a, n⟩ h
def domP {α : Type} {P : α → Prop} {B : Prop} (_ : (∀ x, P x) → B) : α → Prop := P
def domQ {A : Prop} {α : Type} {P : α → Prop} (_ : A = ∀ x, P x) : α → Prop := P
/-- the law's world and its two states, as constants -/
@[irreducible] noncomputable def ww : World := pick (aWorld 1) (domP hd)
@[irreducible] noncomputable def s0 : Shared := pick {} (domQ (show domP hd ww = ∀ x : Shared, _ from rfl))
@[irreducible] noncomputable def s1 : Shared := pick {} (domQ (show domQ (show domP hd ww = ∀ x : Shared, _ from rfl) s0 = ∀ x : Shared, _ from rfl))
theorem law_at (h : domQ (show domQ (show domP hd ww = ∀ x : Shared, _ from rfl) s0 = ∀ x : Shared, _ from rfl) s1) : rw_sc0052_01.Holds := by
  unfold s1 at h
  have h := pick_all h
  change domQ (show domP hd ww = ∀ x : Shared, _ from rfl) s0 at h
  unfold s0 at h
  have h := pick_all h
  change domP hd ww at h
  unfold ww at h
  exact hd (pick_all h)
-- M4
theorem none_ex {α : Type} {x : Option α} (h : x = none) (e : ∃ o, x = some o) : False := e.elim fun _ q => nomatch h.symm.trans q
theorem stm4_0 {x0 x1 x2 x3 x4 x5 x6} (h : wpAny x0 x1 (compareOp CmpOp.NotEq (Value.ref x2) (Value.ref x3)) x4 x5 x6) : wpAny x0 x1 (compareOp CmpOp.NotEq (Value.ref x2) (Value.ref x3)) x4 x5 x6 := h
theorem stm4_1 {x0 x1 x2 x3 x4 x5 x6} (h : wpAny x0 x1 (call (Value.builtin "sorted") x2 x3) x4 x5 x6) : wpAny x0 x1 (call (Value.builtin "sorted") x2 x3) x4 x5 x6 := h
theorem stm4_2 {x0 x1 x2 x3 x4 x5 x6} (h : wpAny x0 x1 (call (Value.builtin "list.index") x2 x3) x4 x5 x6) : wpAny x0 x1 (call (Value.builtin "list.index") x2 x3) x4 x5 x6 := h
theorem stm4_3 {x0 x1 x2 x3 x4 x5 x6 x7} (h : wpAny x0 x1 (compareOp CmpOp.In (Value.str x2 x3) (Value.ref x4)) x5 x6 x7) : wpAny x0 x1 (compareOp CmpOp.In (Value.str x2 x3) (Value.ref x4)) x5 x6 x7 := h
local macro_rules | `(tactic| walk_at "mine stop") => `(tactic| with_reducible first | refine stm4_0 ?_ | refine stm4_1 ?_ | refine stm4_2 ?_ | refine stm4_3 ?_)
-- M6
section
variable {prog : Program} {w : World} {A : Around} {E : Value → Shared → Prop} {s : Shared} {h₀ : Heap} {L a b : Addr} {news n₁ n₂ : List (Addr × Obj)} {oa ob : Obj} {xs ys : List Value} {ka kb : Nat} {ds : List Dat} {Q : Value → Shared → Prop}
open Classical in
/-- != of two lists that hold the same -/
theorem ne_same (N : News h₀ L s.heap news) (ma : (a, oa) ∈ news) (ca : oa.cls = .type "list") (da : oa.data = .seq xs.toArray ka) (Da : DatAll n₁ xs ds) (sa : ∀ p ∈ n₁, p ∈ news)
    (mb : (b, ob) ∈ news) (cb : ob.cls = .type "list") (db : ob.data = .seq ys.toArray kb) (Db : DatAll n₂ ys ds) (sb : ∀ p ∈ n₂, p ∈ news) (ha : ∀ d ∈ ds, kqdOk 8 d = true) (hu : A.units + 64 < cLine) (h : Q (.bool false) s) :
    wpAny (model prog w) A (compareOp .NotEq (.ref a) (.ref b)) Q E s :=
  kqd_ne N ma ca da Da sa mb cb db Db sb ha ha hu (by rw [decide_eq_true rfl]; exact h)
end
-- M6b
theorem stm6b_0 {x0 x1 x2 x3 x4 x5 x6 x7 x8} (h : wpAny x0 x1 (compareOp CmpOp.NotEq (Value.int x2 x3) (Value.int x4 x5)) x6 x7 x8) : wpAny x0 x1 (compareOp CmpOp.NotEq (Value.int x2 x3) (Value.int x4 x5)) x6 x7 x8 := h
local macro_rules | `(tactic| walk_at "mine stop") => `(tactic| with_reducible refine stm6b_0 ?_)
-- M7
noncomputable def ballsOf (words names : List (List Nat)) : List Nat := (List.range words.length).filter fun p => names.contains (words.getD p [])
theorem balls_step {words names : List (List Nat)} {i : Nat} : ((List.range (i + 1)).filter fun p => names.contains (words.getD p [])) = ((List.range i).filter fun p => names.contains (words.getD p [])) ++ (if names.contains (words.getD i []) = true then [i] else []) := by
  rw [List.range_succ, List.filter_append, List.filter_cons, List.filter_nil]
theorem mkS_inj {a b : List Nat} (h : mkS a = mkS b) : a = b := by
  injection h with h; injection h
theorem any_mkS (ns : List (List Nat)) (w : List Nat) : ((ns.map mkS).any fun y => y == mkS w) = ns.contains w := by
  induction ns with
  | nil => rfl
  | cons n ns ih =>
    rw [List.map_cons, List.any_cons, List.contains_cons, ih]
    congr 1
    by_cases h : w = n
    · subst h; rw [beq_self_eq_true, beq_self_eq_true]
    · rw [beq_eq_false_iff_ne.mpr h, beq_eq_false_iff_ne.mpr fun q => h (mkS_inj q).symm]
-- PD
/-! the plain law: what the law asks, on every layout of the balls -/
noncomputable def sortedB : List Nat → Bool
  | [] => true
  | [_] => true
  | a :: b :: r => a ≤ b && sortedB (b :: r)
noncomputable def insN (x : Nat) : List Nat → List Nat
  | [] => [x]
  | y :: r => if x < y then x :: y :: r else y :: insN x r
noncomputable def sortN (l : List Nat) : List Nat := l.foldl (fun a x => insN x a) []
noncomputable def boxesOf (b : List Nat) : List (List Nat) := (List.range (rowLen b)).map boxC
noncomputable def nxt (b : List Nat) : List Nat := ((nearP b 0 false).getD []).map Int.toNat
noncomputable def rowOf (names : List (List Nat)) (b : List Nat) : List (List Nat) := rowP b names (boxesOf b)
noncomputable def blockOf (names : List (List Nat)) (b : List Nat) : List (List Nat) := (sortN (b ++ nxt b)).map fun p => (rowOf names (nxt b)).getD p []
/-- balls that a row may hold -/
noncomputable def goodB (n : Nat) (b : List Nat) : Bool := b.length == n && n != 0 && sortedB b && b.all fun x => x < 60 && x < rowLen b
noncomputable def smallB (l : List Nat) : Bool := Nat.blt l.length 1000 && l.all fun c => Nat.blt c 128
noncomputable def stepB (names : List (List Nat)) (kept : List Nat) (t : Nat) (b : List Nat) : Bool :=
  goodB names.length b && goodB names.length (nxt b) && nearP b t false == some (intsOf (nxt b)) && nearP b (t + 1) false == some (intsOf (nxt b)) && struckP (nxt b) == kept &&
  smallB (rowOf names b).flatten && (nestP b (rowOf names b)).isPerm (nxt b) &&
  lineP b (rowOf names b) == (names.zip (nxt b), []) && tabP ((nxt b).map fun x => ((nestP b (rowOf names b)).idxOf x : Int)) == kept &&
  (sortN (b ++ nxt b)).isPerm (b ++ nxt b) && sortedB (sortN (b ++ nxt b)) && (sortN (b ++ nxt b)).all (fun p => p < rowLen (nxt b)) &&
  smallB (blockOf names b).flatten && checkP (blockOf names b).flatten == false && checkP (blockOf names b).reverse.flatten == true
noncomputable def lawB (names : List (List Nat)) (gaps : List Nat) : Bool :=
  let b := ballsOf (wordsG names gaps []) names
  stepB names (struckP b) 0 b && stepB names (struckP b) 1 (nxt b) && nearP (nxt (nxt b)) 0 true == some (intsOf (nxt b)) && nearP (nxt b) 1 true == some (intsOf b)
noncomputable def lay : Nat → List (List Nat)
  | 0 => [[]]
  | k + 1 => (lay k).flatMap fun l => [0 :: l, 1 :: l, 2 :: l]
theorem mem_lay : ∀ (k : Nat) (l : List Nat), l.length = k → (∀ g ∈ l, g < 3) → l ∈ lay k
  | 0, [], _, _ => .head _
  | 0, _ :: _, h, _ => by simp at h
  | k + 1, [], h, _ => by simp at h
  | k + 1, g :: l, h, hg => by
    have ih := mem_lay k l (by simpa using h) fun x hx => hg x (.tail _ hx)
    refine List.mem_flatMap.mpr ⟨l, ih, ?_⟩
    have := hg g (.head _)
    match g, this with
    | 0, _ => exact .head _
    | 1, _ => exact .tail _ (.head _)
    | 2, _ => exact .tail _ (.tail _ (.head _))
theorem sorted_head : ∀ {a : Int} {l : List Int}, (a :: l).Pairwise (· ≤ ·) → ∀ x ∈ l, a ≤ x := fun h => (List.pairwise_cons.mp h).1
theorem sort_unique : ∀ {l l' : List Int}, l.Perm l' → l.Pairwise (· ≤ ·) → l'.Pairwise (· ≤ ·) → l = l'
  | [], l', h, _, _ => h.nil_eq
  | a :: l, [], h, _, _ => by have := h.length_eq; simp at this
  | a :: l, b :: l', h, s, s' => by
    have e : a = b := by
      have h1 : a ∈ b :: l' := h.mem_iff.mp (.head _)
      have h2 : b ∈ a :: l := h.mem_iff.mpr (.head _)
      have i1 : b ≤ a := by
        rcases List.mem_cons.mp h1 with q | q
        · exact ar227 q
        · exact sorted_head s' a q
      have i2 : a ≤ b := by
        rcases List.mem_cons.mp h2 with q | q
        · exact ar227 q
        · exact sorted_head s b q
      exact ar228 i1 i2
    subst e
    rw [sort_unique (h.cons_inv) (List.pairwise_cons.mp s).2 (List.pairwise_cons.mp s').2]
theorem sortedB_ints : ∀ l : List Nat, sortedB l = true → (intsOf l).Pairwise (· ≤ ·)
  | [], _ => .nil
  | [_], _ => by simp [intsOf]
  | a :: b :: r, h => by
    unfold sortedB at h
    rw [Bool.and_eq_true, decide_eq_true_eq] at h
    have ih := sortedB_ints (b :: r) h.2
    refine List.pairwise_cons.mpr ⟨fun x hx => ?_, ih⟩
    obtain ⟨y, hy, rfl⟩ := List.mem_map.mp hx
    try dsimp only
    rcases List.mem_cons.mp hy with rfl | hy
    · exact ar229 h
    · have := sorted_head ih (y : Int) (List.mem_map_of_mem hy)
      dsimp only at this
      exact ar230 h this
-- PF
theorem lay_split {k : Nat} {p : List Nat → Bool} (h0 : ((lay k).all fun g => p (0 :: g)) = true) (h1 : ((lay k).all fun g => p (1 :: g)) = true) (h2 : ((lay k).all fun g => p (2 :: g)) = true) : (lay (k + 1)).all p = true := by
  rw [List.all_eq_true] at h0 h1 h2 ⊢
  intro x hx
  obtain ⟨g, hg, hx⟩ := List.mem_flatMap.mp hx
  simp only [List.mem_cons, List.not_mem_nil, or_false] at hx
  rcases hx with rfl | rfl | rfl
  · exact h0 g hg
  · exact h1 g hg
  · exact h2 g hg
theorem lay4_0 : ((lay 3).all fun g => lawB (names5.take 4) (0 :: g)) = true := by decide +kernel
theorem lay4_1 : ((lay 3).all fun g => lawB (names5.take 4) (1 :: g)) = true := by decide +kernel
theorem lay4_2 : ((lay 3).all fun g => lawB (names5.take 4) (2 :: g)) = true := by decide +kernel
theorem lay5_00 : ((lay 3).all fun g => lawB (names5.take 5) (0 :: 0 :: g)) = true := by decide +kernel
theorem lay5_01 : ((lay 3).all fun g => lawB (names5.take 5) (0 :: 1 :: g)) = true := by decide +kernel
theorem lay5_02 : ((lay 3).all fun g => lawB (names5.take 5) (0 :: 2 :: g)) = true := by decide +kernel
theorem lay5_10 : ((lay 3).all fun g => lawB (names5.take 5) (1 :: 0 :: g)) = true := by decide +kernel
theorem lay5_11 : ((lay 3).all fun g => lawB (names5.take 5) (1 :: 1 :: g)) = true := by decide +kernel
theorem lay5_12 : ((lay 3).all fun g => lawB (names5.take 5) (1 :: 2 :: g)) = true := by decide +kernel
theorem lay5_20 : ((lay 3).all fun g => lawB (names5.take 5) (2 :: 0 :: g)) = true := by decide +kernel
theorem lay5_21 : ((lay 3).all fun g => lawB (names5.take 5) (2 :: 1 :: g)) = true := by decide +kernel
theorem lay5_22 : ((lay 3).all fun g => lawB (names5.take 5) (2 :: 2 :: g)) = true := by decide +kernel
theorem lay4 : ((lay 4).all fun g => lawB (names5.take 4) g) = true := lay_split (p := fun g => lawB (names5.take 4) g) lay4_0 lay4_1 lay4_2
theorem lay5a : ((lay 4).all fun g => lawB (names5.take 5) (0 :: g)) = true := lay_split (p := fun g => lawB (names5.take 5) (0 :: g)) lay5_00 lay5_01 lay5_02
theorem lay5b : ((lay 4).all fun g => lawB (names5.take 5) (1 :: g)) = true := lay_split (p := fun g => lawB (names5.take 5) (1 :: g)) lay5_10 lay5_11 lay5_12
theorem lay5c : ((lay 4).all fun g => lawB (names5.take 5) (2 :: g)) = true := lay_split (p := fun g => lawB (names5.take 5) (2 :: g)) lay5_20 lay5_21 lay5_22
-- PG
theorem law_all {r : Nat} (hr : r < 2) {g : List Nat} (hl : g.length = 4 + r) (hg : ∀ x ∈ g, x < 3) : lawB (names5.take (4 + r)) g = true := by
  have h : r = 0 ∨ r = 1 := by exact ar172 hr
  rcases h with rfl | rfl
  · exact List.all_eq_true.mp lay4 g (mem_lay 4 g hl hg)
  · cases g with
    | nil => simp at hl
    | cons a g =>
      have ha := hg a (.head _)
      have hm := mem_lay 4 g (by simpa using hl) fun x hx => hg x (.tail _ hx)
      have h3 : a = 0 ∨ a = 1 ∨ a = 2 := by exact ar231 ha
      rcases h3 with rfl | rfl | rfl
      · exact List.all_eq_true.mp lay5a g hm
      · exact List.all_eq_true.mp lay5b g hm
      · exact List.all_eq_true.mp lay5c g hm
theorem law_holds {xs : List Int} {n : Nat} (hx : xs.length = 4 + n % 2) : lawB (names5.take (4 + n % 2)) (xs.map gapOf) = true :=
  law_all (by exact (Nat.lt_of_le_of_lt (Nat.le_of_lt_succ (Nat.mod_lt _ (by decide))) (by decide))) (by rw [List.length_map]; exact hx) fun g hg => by
    obtain ⟨x, _, rfl⟩ := List.mem_map.mp hg
    exact gap_lt x
-- M8
/-- what the law keeps: the cells of nest and fresh, and the rest of the ledger -/
structure Core (g h : Heap) (Z : Addr) (c3 c4 : Obj) (l : List (Addr × Obj)) : Prop where
  n : News g Z h ((Z + 1 + 1 + 1, c3) :: (Z + 1 + 1 + 1 + 1, c4) :: l)
  d : ∀ p ∈ l, p.1 ≠ Z + 1 + 1 + 1 ∧ p.1 ≠ Z + 1 + 1 + 1 + 1
theorem Core.sub {g h : Heap} {Z : Addr} {c3 c4 : Obj} {l l' : List (Addr × Obj)} (C : Core g h Z c3 c4 l) (hs : ∀ q ∈ l', q ∈ l) : Core g h Z c3 c4 l' :=
  ⟨fun q hq => C.n q (by
    refine memc hq ?_ fun q hq => ?_
    · exact .head _
    · refine memc hq ?_ fun q hq => ?_
      · exact .tail _ (.head _)
      · exact .tail _ (.tail _ (hs q hq))), fun p hp => C.d p (hs p hp)⟩
/-- a callee has left all as it was, and has made a -/
theorem Core.add {g h h' : Heap} {Z a : Addr} {o c3 c4 : Obj} {l : List (Addr × Obj)} {m : Str → Option Value} (F : Fr g Z h m) (C : Core g h Z c3 c4 l) (k : h.StaysIn h') (e0 : h.get? a = none) (e : h'.get? a = some o) : Core g h' Z c3 c4 ((a, o) :: l) := by
  obtain ⟨N, D⟩ := news_fresh F C.n (news_stays C.n k) e0 e
  refine ⟨fun q hq => N q (by
    refine memc hq ?_ fun q hq => ?_
    · exact .tail _ (.head _)
    · refine memc hq ?_ fun q hq => ?_
      · exact .tail _ (.tail _ (.head _))
      · refine memc hq ?_ fun q hq => ?_
        · exact .head _
        · exact .tail _ (.tail _ (.tail _ hq))), fun p hp => ?_⟩
  refine memc hp ?_ fun p hp => ?_
  · exact ⟨Ne.symm (D _ (.head _)), Ne.symm (D _ (.tail _ (.head _)))⟩
  · exact C.d p hp
theorem Core.stays {g h h' : Heap} {Z : Addr} {c3 c4 : Obj} {l : List (Addr × Obj)} (C : Core g h Z c3 c4 l) (k : h.StaysIn h') : Core g h' Z c3 c4 l := ⟨news_stays C.n k, C.d⟩
theorem Core.mem {g h : Heap} {Z : Addr} {c3 c4 : Obj} {l : List (Addr × Obj)} (C : Core g h Z c3 c4 l) : News g Z h l := fun q hq => C.n q (.tail _ (.tail _ hq))
theorem ne_cell {g h : Heap} {L a b : Addr} {o c : Obj} {v : Option Value} {l : List (Addr × Obj)} (N : News g L h l) (ha : (a, o) ∈ l) (hb : (b, c) ∈ l) (hc : c.data = .cell v) (ho : ∀ v, o.data ≠ .cell v) : a ≠ b := fun e => by
  have h1 := (N _ ha).1
  have h2 := (N _ hb).1
  dsimp only at h1 h2
  rw [e, h2] at h1
  have := Option.some.inj h1
  rw [this] at hc
  exact ho _ hc
-- M9
theorem neq_same {prog : Program} {w : World} {A : Around} {s : Shared} {a b : Addr} {xs ys : List Value} {ns : List Int} {Q E : Value → Shared → Prop} (ha : s.heap.IsList a xs.toArray) (hb : s.heap.IsList b ys.toArray) (hi : IntsAre xs ns) (hj : IntsAre ys ns) (hu : A.units + 64 < cLine) (h : Q (.bool false) s) :
    wpAny (model prog w) A (compareOp .NotEq (.ref a) (.ref b)) Q E s := ke_ne_ints ha hb hi hj hu (by rw [decide_eq_true rfl]; exact h)
theorem byQ {α : Type} {M : Model} {A : Around} {E : Value → Shared → Prop} {s : Shared} {c : Sem α} {Q : α → Shared → Prop} (h : ∀ Q' : α → Shared → Prop, (∀ a s, Q a s → Q' a s) → wpAny M A c Q' E s) : wpAny M A c Q E s := h Q fun _ _ h => h
structure GoodP (n : Nat) (b : List Nat) : Prop where
  len : b.length = n
  ne : b ≠ []
  lt : ∀ x ∈ b, x < 60
  row : ∀ x ∈ b, x < rowLen b
  srt : (intsOf b).Pairwise (· ≤ ·)
theorem goodP {n : Nat} {b : List Nat} (h : goodB n b = true) : GoodP n b := by
  unfold goodB at h
  simp only [Bool.and_eq_true, beq_iff_eq, bne_iff_ne, List.all_eq_true, decide_eq_true_eq] at h
  obtain ⟨⟨⟨h1, h2⟩, h3⟩, h4⟩ := h
  refine ⟨h1, fun e => ?_, fun x hx => (h4 x hx).1, fun x hx => (h4 x hx).2, sortedB_ints b h3⟩
  rw [e] at h1
  exact h2 h1.symm
theorem smallP {l : List Nat} (h : smallB l = true) : l.length < 1000 ∧ ∀ c ∈ l, c < 128 := by
  unfold smallB at h
  rw [Bool.and_eq_true, List.all_eq_true] at h
  exact ⟨Nat.le_of_ble_eq_true h.1, fun c hc => Nat.le_of_ble_eq_true (h.2 c hc)⟩
structure StepP (names : List (List Nat)) (kept : List Nat) (t : Nat) (b : List Nat) : Prop where
  g1 : GoodP names.length b
  g2 : GoodP names.length (nxt b)
  n1 : nearP b t false = some (intsOf (nxt b))
  n2 : nearP b (t + 1) false = some (intsOf (nxt b))
  st : struckP (nxt b) = kept
  r1 : (rowOf names b).flatten.length < 1000
  r2 : ∀ c ∈ (rowOf names b).flatten, c < 128
  ne : (nestP b (rowOf names b)).Perm (nxt b)
  li : lineP b (rowOf names b) = (names.zip (nxt b), [])
  ta : tabP ((nxt b).map fun x => ((nestP b (rowOf names b)).idxOf x : Int)) = kept
  s1 : (sortN (b ++ nxt b)).Perm (b ++ nxt b)
  s2 : (intsOf (sortN (b ++ nxt b))).Pairwise (· ≤ ·)
  s3 : ∀ p ∈ sortN (b ++ nxt b), p < rowLen (nxt b)
  b1 : (blockOf names b).flatten.length < 1000
  b2 : ∀ c ∈ (blockOf names b).flatten, c < 128
  c1 : checkP (blockOf names b).flatten = false
  c2 : checkP (blockOf names b).reverse.flatten = true
theorem stepP {names : List (List Nat)} {kept : List Nat} {t : Nat} {b : List Nat} (h : stepB names kept t b = true) : StepP names kept t b := by
  unfold stepB at h
  simp only [Bool.and_eq_true, beq_iff_eq] at h
  obtain ⟨⟨⟨⟨⟨⟨⟨⟨⟨⟨⟨⟨⟨⟨h1, h2⟩, h3⟩, h4⟩, h5⟩, h6⟩, h7⟩, h8⟩, h9⟩, h10⟩, h11⟩, h12⟩, h13⟩, h14⟩, h15⟩ := h
  exact ⟨goodP h1, goodP h2, h3, h4, h5, (smallP h6).1, (smallP h6).2, List.isPerm_iff.mp h7, h8, h9, List.isPerm_iff.mp h10, sortedB_ints _ h11, fun p hp => of_decide_eq_true (List.all_eq_true.mp h12 p hp), (smallP h13).1, (smallP h13).2, h14, h15⟩
/-- the balls after i steps -/
noncomputable def bAt (b : List Nat) : Nat → List Nat
  | 0 => b
  | i + 1 => nxt (bAt b i)
/-- what stands between two steps of the law -/
inductive TurnJ (Z ka an cr pa : Addr) (kv vn : List Value) (kn n1 : Nat) (c1 : Obj) (B0 : List Nat) (i : Nat) (m : Str → Option Value) (news : List (Addr × Obj)) : Prop
  | mk (c3 c4 oc : Obj) (v3 v4 : Option Value) (fs : Array Value) (tq : Tok) (bl : Addr) (bv : List Value) (bn : Nat) (old : List (Addr × Obj)) (pn : Nat)
    (e : news = (Z + 1 + 1 + 1, c3) :: (Z + 1 + 1 + 1 + 1, c4) :: (pa, listOf (List.toArray (old.map fun c : Addr × Obj => Value.ref c.1)) pn) :: (bl, listOf (List.toArray bv) bn) :: (ka, listOf kv.toArray kn) :: (Z + 1, c1) :: (an, listOf vn.toArray n1) :: (106, tabObj (lexTab cr)) :: (cr, oc) :: old)
    (h3 : c3.data = .cell v3) (h4 : c4.data = .cell v4) (ho : oc.data = .fields fs) (hf : fs[1]? = some (.str (Str.ofString "_law_lexer" ++ ".<locals>." ++ Str.ofString "<lambda>") tq))
    (hz : ∀ p ∈ (pa, listOf (List.toArray (old.map fun c : Addr × Obj => Value.ref c.1)) pn) :: (bl, listOf (List.toArray bv) bn) :: (ka, listOf kv.toArray kn) :: (Z + 1, c1) :: (an, listOf vn.toArray n1) :: (106, tabObj (lexTab cr)) :: (cr, oc) :: old, p.1 ≠ Z + 1 + 1 + 1 ∧ p.1 ≠ Z + 1 + 1 + 1 + 1)
    (hp : ∀ p ∈ (bl, listOf (List.toArray bv) bn) :: (ka, listOf kv.toArray kn) :: (Z + 1, c1) :: (an, listOf vn.toArray n1) :: (106, tabObj (lexTab cr)) :: (cr, oc) :: old, p.1 ≠ pa)
    (hi : IntsAre bv (intsOf (bAt B0 i))) (hr : RowsAre old ((List.range i).map fun j => intsOf (bAt B0 j))) (mb : m (Str.ofString "balls") = some (.ref bl)) (mp : m (Str.ofString "past") = some (.ref pa)) (mk : m (Str.ofString "kept") = some (.ref ka))
-- M10
local macro_rules | `(tactic| walk_at "eval Name") => `(tactic| (k_here; k_dflt (refine' nameX_C ?N ?c ?m ?d ?_ ?a ?b; (case b => rfl); (case a => rfl); (case N => k_asm); (case c => rfl); (case m => k_mem); (case d => with_reducible assumption); k_whole)))
theorem boxes_len (b : List Nat) : (boxesOf b).length = rowLen b := by unfold boxesOf; rw [List.length_map, List.length_range]
theorem rowP_len : ∀ (b : List Nat) (n : List (List Nat)) (row : List (List Nat)), (rowP b n row).length = row.length
  | [], n, row => by cases n <;> rfl
  | _ :: _, [], row => rfl
  | b :: bs, n :: ns, row => by rw [rowP, rowP_len bs ns, List.length_set]
theorem rowOf_len (names : List (List Nat)) (b : List Nat) : (rowOf names b).length = rowLen b := by unfold rowOf; rw [rowP_len, boxes_len]
theorem rowLen_lt {n : Nat} {b : List Nat} (h : GoodP n b) (hn : n ≤ 5) : rowLen b < 70 := by
  have h1 : b.getLastD 0 < 60 := by
    rw [List.getLastD_eq_getLast?]
    cases e : b.getLast? with
    | none => decide
    | some x => exact h.lt x (List.mem_of_getLast? e)
  have := h.len
  unfold rowLen
  exact ar171 hn h1 this
-- M13
section
variable {prog : Program} {w : World} {A : Around} {E : Value → Shared → Prop} {h₀ h : Heap} {L l : Addr} {m : Str → Option Value} {news : List (Addr × Obj)} {gs : Array GenState} {dr : Drawn} {tk : Nat} {os : OsState} {Q : Value → Shared → Prop}
/-- sorted of ints: the one list that is sorted and has the same ints -/
theorem sorted_own {vs : List Value} {ns ms : List Int} (F : Fr h₀ L h m) (N : News h₀ L h news) (hl : h.IsList l vs.toArray) (hI : IntsAre vs ns) (h64 : vs.length < 64) (hp : ns.Perm ms) (hs : ms.Pairwise (· ≤ ·))
    (k : ∀ D h' vs' e, Fr h₀ L h' m → News h₀ L h' ((D, listOf (List.toArray vs') e) :: news) → (∀ p ∈ news, p.1 < D) → IntsAre vs' ms → Q (.ref D) ⟨h', gs, dr, tk, os⟩) :
    wpAny (model prog w) A (call (.builtin "sorted") [.ref l]) Q E ⟨h, gs, dr, tk, os⟩ :=
  sorted_N (s := ⟨h, gs, dr, tk, os⟩) F N hl hI h64 fun h' vs' ns' e F' N' hI' hp' hs' => by
    have e1 : ns' = ms := sort_unique (hp'.trans hp) hs' hs
    rw [e1] at hI'
    exact k _ h' vs' e F' N' (fun p hp => Nat.lt_succ_of_lt (Heap.lt_size (N p hp).1)) hI'
end
-- M14
theorem line_spec2 {w : World} {pp : Program} {loose : List Str} {mean : ExcName → Option Value} {mg mb : Str → Option Value} {h₀ : Heap} {dp un : Nat} {fr : Option (List Env)} {gd : Option (List Code)} {s : Shared} {Q : Value → Shared → Prop} {ab ar cr : Addr} {vb vr : List Value} {bs : List Nat} {row : List (List Nat)} {acc : List (List Nat × Nat)}
    (k₀ : h₀.StaysIn s.heap) (X : (hd.heap_39 w.params).In h₀) (T : Hid (Top pp loose mean mg mb h₀)) (hroom : dp + 3 < recursionLimit) (C : CodeHd h₀ 110 106)
    (hT : s.heap.get? 106 = some (tabObj (lexTab cr))) (hT0 : h₀.get? 106 = none) (hc : CodeAt s.heap cr) (hc0 : h₀.get? cr = none)
    (hl : s.heap.IsList ab vb.toArray) (hi : IntsAre vb (intsOf bs)) (hl2 : s.heap.IsList ar vr.toArray) (hi2 : StrsAre vr (row.map mkS)) (hbl : bs.length < 10) (hrl : row.length < 100) (hP : lineP bs row = (acc, []))
    (h : ∀ h' tk g' a vs n tups, But [cr] s.heap h' → CodeAt h' cr → (AllBare s.gens → AllBare g') → s.heap.get? a = none → h'.get? a = some (listOf (List.toArray vs) n) → (∀ q ∈ tups, h'.get? q.1 = some q.2 ∧ s.heap.get? q.1 = none) →
      DatAll tups vs (acc.map pairD ++ [pairD ([122], row.length)]) → Q (.ref a) { s with heap := h', toks := tk, gens := g' }) :
    wpAny (model PR w) (AA dp un fr gd) (call (.ref 149) [.ref ab, .ref ar]) Q NoE s := by
  refine byG fun G9 k9 => ?_; rcases id hc with ⟨oc, fs, t0, e1, e2, e3⟩; all_goals (refine k9 ?_; clear k9 G9)
  have st : h₀.StaysIn (hideAll s.heap [106, cr]) := fun b o e => hideAll_get _ (k₀ b o e) (fun q => by
    rcases List.mem_cons.mp q with q | q
    · rw [q, hT0] at e; cases e
    · rw [List.mem_singleton.mp q, hc0] at e; cases e)
  have nl : ∀ {a : Addr} {its : Array Value}, s.heap.IsList a its → (hideAll s.heap [106, cr]).get? a ≠ none := fun {a its} ⟨o, ho, hcl, n, hd⟩ => by
    have : (hideAll s.heap [106, cr]).get? a = some o := hideAll_get _ ho (fun q => by
      rcases List.mem_cons.mp q with q | q
      · rw [q, hT] at ho
        have := Option.some.inj ho
        rw [← this] at hd; cases hd
      · rw [List.mem_singleton.mp q, e1] at ho
        have := Option.some.inj ho
        rw [← this, e2] at hd; cases hd)
    rw [this]; exact fun q => nomatch q
  exact line_spec (h₀ := hideAll s.heap [106, cr]) (fun b o e => of_hideAll _ e) (X.keeps st) ⟨T.out.keeps st⟩ hroom (C.keeps st) hT (hideAll_none _ (.head _)) hc (hideAll_none _ (.tail _ (.head _))) hl (nl hl) hi hl2 (nl hl2) hi2 hbl hrl hP h
-- M15
theorem rows_data : ∀ {cells : List (Addr × Obj)} {rws : List (List Int)}, RowsAre cells rws → ∀ p ∈ cells, ∃ vs n, p.2 = listOf (List.toArray vs) n
  | _, _, .nil, _, h => nomatch h
  | _, _, .cons _ r, p, h => by
    rcases List.mem_cons.mp h with rfl | h
    · exact ⟨_, _, rfl⟩
    · exact rows_data r p h
/-- a callee has turned the object at cr alone, and has made a and what it holds -/
theorem Core.but {g h h' : Heap} {Z cr a : Addr} {oc oc' o c3 c4 : Obj} {pre post tups : List (Addr × Obj)} {m : Str → Option Value} (F : Fr g Z h m) (C : Core g h Z c3 c4 (pre ++ (cr, oc) :: post)) (k : But [cr] h h') (e : h'.get? cr = some oc')
    (h1 : ∀ p ∈ pre, p.1 ≠ cr) (h2 : ∀ p ∈ post, p.1 ≠ cr) (a0 : h.get? a = none) (ha : h'.get? a = some o) (ht : ∀ q ∈ tups, h'.get? q.1 = some q.2 ∧ h.get? q.1 = none) :
    Fr g Z h' m ∧ Core g h' Z c3 c4 ((a, o) :: (tups ++ (pre ++ (cr, oc') :: post))) := by
  have zc := C.mem (cr, oc) (List.mem_append_right _ (.head _))
  have dc := C.d (cr, oc) (List.mem_append_right _ (.head _))
  have fresh : ∀ b, h.get? b = none → b ≠ Z ∧ g.get? b = none ∧ b ≠ Z + 1 + 1 + 1 ∧ b ≠ Z + 1 + 1 + 1 + 1 := fun b hb => by
    refine ⟨fun q => ?_, ?_, fun q => ?_, fun q => ?_⟩
    · refine byG fun G9 k9 => ?_; rcases F.ns with ⟨oL, es, ep, ho, _⟩; all_goals (refine k9 ?_; clear k9 G9)
      rw [← q, hb] at ho; cases ho
    · cases e2 : g.get? b with
      | none => rfl
      | some o2 => have := F.keep _ _ e2; rw [hb] at this; cases this
    · have := (C.n _ (.head _)).1
      dsimp only at this
      rw [← q, hb] at this; cases this
    · have := (C.n _ (.tail _ (.head _))).1
      dsimp only at this
      rw [← q, hb] at this; cases this
  have old : ∀ p : Addr × Obj, p.1 ≠ cr → h.get? p.1 = some p.2 → h'.get? p.1 = some p.2 := fun p hp q => k _ _ (fun x => hp (List.mem_singleton.mp x)) q
  refine ⟨fr_but F k (fun q => zc.2.1 (List.mem_singleton.mp q).symm) (fun b q => by rw [List.mem_singleton.mp q]; exact zc.2.2), ?_, ?_⟩
  · intro q hq
    refine memc hq ?_ fun q hq => ?_
    · exact ⟨old _ (Ne.symm dc.1) (C.n _ (.head _)).1, (C.n _ (.head _)).2⟩
    · refine memc hq ?_ fun q hq => ?_
      · exact ⟨old _ (Ne.symm dc.2) (C.n _ (.tail _ (.head _))).1, (C.n _ (.tail _ (.head _))).2⟩
      · refine memc hq ?_ fun q hq => ?_
        · exact ⟨ha, (fresh _ a0).1, (fresh _ a0).2.1⟩
        · rcases List.mem_append.mp hq with hq | hq
          · exact ⟨(ht q hq).1, (fresh _ (ht q hq).2).1, (fresh _ (ht q hq).2).2.1⟩
          · rcases List.mem_append.mp hq with hq | hq
            · have z := C.mem q (List.mem_append_left _ hq)
              exact ⟨old q (h1 q hq) z.1, z.2⟩
            · refine memc hq ?_ fun q hq => ?_
              · exact ⟨e, zc.2⟩
              · have z := C.mem q (List.mem_append_right _ (.tail _ hq))
                exact ⟨old q (h2 q hq) z.1, z.2⟩
  · intro p hp
    refine memc hp ?_ fun p hp => ?_
    · exact (fresh _ a0).2.2
    · rcases List.mem_append.mp hp with hp | hp
      · exact (fresh _ (ht p hp).2).2.2
      · rcases List.mem_append.mp hp with hp | hp
        · exact C.d p (List.mem_append_left _ hp)
        · refine memc hp ?_ fun p hp => ?_
          · exact dc
          · exact C.d p (List.mem_append_right _ (.tail _ hp))
-- Z1
namespace F
theorem zip_no_len : typeLookup (.type "zip") "__len__" = pure none := by rw [typeLookup_type, builtinLookup_eq_fast]; kernel_rfl
theorem zip_no_hint : typeLookup (.type "zip") "__length_hint__" = pure none := by rw [typeLookup_type, builtinLookup_eq_fast]; kernel_rfl
end F
noncomputable abbrev zipO (TI TO : Addr) (f0 f1 : Value) : Obj := { cls := .type "zip", dict := none, data := .fields #[f0, f1, .bool false, .ref TI, .ref TO], slots := #[] }
section
variable {prog : Program} {w : World} {A : Around} {E : Value → Shared → Prop} {s : Shared}
theorem wp_loadIfAlive {M : Model} {a : Addr} {Q : Option Obj → Shared → Prop} (h : Q (s.heap.get? a) s) : wpAny M A (loadIfAlive a) Q E s := fun Γ p hΓ => by
  unfold loadIfAlive
  rw [Sem.wp_loadIfAlive]
  exact wpAny_pure h Γ p hΓ
theorem wp_free {z TI TO T0 : Addr} {f1 : Value} {o : Obj} {Q : Bool → Shared → Prop} (hz : s.heap.get? z = some (zipO TI TO (rawInt T0) f1)) (hT : s.heap.get? T0 = some o)
    (hQ : ∀ h' f, h'.get? z = some (zipO TI TO (rawInt T0) f) → Heap.SameBut z s.heap h' → Q false { s with heap := h' }) :
    wpAny (model prog w) A (Builtin.SmallTypes.ownedTupleIsFree (.ref z)) Q E s := by
  unfold Builtin.SmallTypes.ownedTupleIsFree
  refine wpAny_bind (wpAny_field hz rfl (x := rawInt T0) rfl ?_)
  show wpAny _ _ (loadIfAlive T0 >>= _) _ _ _
  refine wpAny_bind (wp_loadIfAlive ?_)
  rw [hT]
  show wpAny _ _ (field (.ref z) 1 >>= _) _ _ _
  refine wpAny_bind (wpAny_field hz rfl (x := f1) rfl ?_)
  by_cases hb : f1 = .bool true
  · subst hb
    exact wpAny_pure (hQ _ _ hz ⟨rfl, fun _ _ => rfl⟩)
  · have hb' : (f1 != Value.bool true) = true := by rw [bne_iff_ne]; exact hb
    simp only [hb', if_true]
    refine wpAny_bind (wpAny_setField_rec hz (by simp) fun h' hz' hs' => wpAny_pure (hQ _ _ hz' hs'))
theorem zip_next_item2 {z TI TO T0 i1 i2 l1 l2 : Addr} {k1 k2 : Nat} {xs ys : Array Value} {x y f1 : Value} {o : Obj} {Q : Value → Shared → Prop} (D : ZipApart z TI TO i1 i2 l1 l2)
    (hz : s.heap.get? z = some (zipO TI TO (rawInt T0) f1)) (hT0 : s.heap.get? T0 = some o) (hTI : IsPair s.heap TI (.ref i1) (.ref i2))
    (h1 : s.heap.IsListIter i1 l1 k1) (h2 : s.heap.IsListIter i2 l2 k2) (hl1 : s.heap.IsList l1 xs) (hl2 : s.heap.IsList l2 ys) (hx : xs[k1]? = some x) (hy : ys[k2]? = some y)
    (hQ : ∀ h' f, h'.get? z = some (zipO TI TO (rawInt T0) f) → h'.IsListIter i1 l1 (k1 + 1) → h'.IsListIter i2 l2 (k2 + 1) → IsPair h' s.heap.objs.size x y →
      (∀ c o, c ≠ z → c ≠ i1 → c ≠ i2 → s.heap.get? c = some o → h'.get? c = some o) → Q (.ref s.heap.objs.size) { s with heap := h' }) :
    wpAny (model prog w) A (Builtin.«zip.__next__» ⟨[.ref z], []⟩) (fun fin s' => ∃ v, fin = .done (.ret v) ∧ Q v s') E s := by
  show wpAny _ _ (field (.ref z) 2 >>= _) _ _ _
  refine wpAny_bind (wpAny_field hz rfl (x := .bool false) rfl ?_)
  show wpAny _ _ (field (.ref z) 3 >>= _) _ _ _
  refine wpAny_bind (wpAny_field hz rfl (x := .ref TI) rfl ?_)
  refine wpAny_bind (wpAny_seqItems hTI rfl ?_)
  show wpAny _ _ (Builtin.SmallTypes.ownedTupleIsFree (.ref z) >>= _) _ _ _
  refine wpAny_bind (wp_free hz hT0 fun h₁ f hz₁ hs₁ => ?_)
  simp only [Bool.false_eq_true, if_false]
  refine wpAny_bind ?_
  simp only [List.forIn_toArray, List.forIn_cons, List.forIn_nil]
  refine wpAny_bind (wpAny_bind (wpAny_holding ?_))
  show wpAny _ _ (Builtin.SmallTypes.nextOf (.ref i1) >>= _) _ _ _
  refine wpAny_bind (wpAny_nextOf_list_item (h1.extBut hs₁.extBut D.i1z) (hl1.extBut hs₁.extBut D.l1z) hx fun h₂ h1₂ hs₂ => wpAny_pure (wpAny_pure ?_))
  refine wpAny_bind (wpAny_bind (wpAny_holding ?_))
  show wpAny _ _ (Builtin.SmallTypes.nextOf (.ref i2) >>= _) _ _ _
  refine wpAny_bind (wpAny_nextOf_list_item ((h2.extBut hs₁.extBut D.i2z).extBut hs₂.extBut D.i12.symm)
    ((hl2.extBut hs₁.extBut D.l2z).extBut hs₂.extBut D.l2i1) hy fun h₃ h2₃ hs₃ => wpAny_pure (wpAny_pure (wpAny_pure ?_)))
  show wpAny _ _ (newTuple [x, y] >>= _) _ _ _
  refine wpAny_bind (wpAny_newTuple ?_)
  have hsz : h₃.objs.size = s.heap.objs.size := by rw [hs₃.1, hs₂.1, hs₁.1]
  have hz₃ := hs₃.extBut _ _ D.i2z.symm (hs₂.extBut _ _ D.i1z.symm hz₁)
  have h1₃ := h1₂.extBut hs₃.extBut D.i12
  have up : ∀ c o, h₃.get? c = some o → (h₃.push { cls := .type "tuple", data := .seq #[x, y] }).get? c = some o := fun c o e => Heap.get?_push_of_some _ e
  have hP : IsPair (h₃.push { cls := .type "tuple", data := .seq #[x, y] }) h₃.objs.size x y := Heap.get?_push_size _ rfl
  refine wpAny_pure ⟨_, rfl, ?_⟩
  show Q (.ref h₃.objs.size) _
  rw [hsz] at hP ⊢
  exact hQ _ f (up _ _ hz₃) (h1₃.at fun o e => up _ o e) (h2₃.at fun o e => up _ o e) hP fun c o c1 c2 c3 e => up c o (hs₃.extBut _ _ c3 (hs₂.extBut _ _ c2 (hs₁.extBut _ _ c1 e)))
theorem zip_next_end2 {z TI TO T0 i1 i2 l1 l2 : Addr} {k1 k2 : Nat} {xs ys : Array Value} {f1 : Value} {o : Obj} {Q : Fin → Shared → Prop} (hh : A.handled = none) (D : ZipApart z TI TO i1 i2 l1 l2)
    (hz : s.heap.get? z = some (zipO TI TO (rawInt T0) f1)) (hT0 : s.heap.get? T0 = some o) (hTI : IsPair s.heap TI (.ref i1) (.ref i2))
    (h1 : s.heap.IsListIter i1 l1 k1) (h2 : s.heap.IsListIter i2 l2 k2) (hl1 : s.heap.IsList l1 xs) (hl2 : s.heap.IsList l2 ys) (hend : xs[k1]? = none ∨ ys[k2]? = none)
    (hE : ∀ h' e, (∀ c o, c ≠ z → c ≠ i1 → c ≠ i2 → s.heap.get? c = some o → h'.get? c = some o) → (∃ o, h'.get? e = some o ∧ o.cls = .type "StopIteration") → E (.ref e) { s with heap := h' }) :
    wpAny (model prog w) A (Builtin.«zip.__next__» ⟨[.ref z], []⟩) Q E s := by
  show wpAny _ _ (field (.ref z) 2 >>= _) _ _ _
  refine wpAny_bind (wpAny_field hz rfl (x := .bool false) rfl ?_)
  show wpAny _ _ (field (.ref z) 3 >>= _) _ _ _
  refine wpAny_bind (wpAny_field hz rfl (x := .ref TI) rfl ?_)
  refine wpAny_bind (wpAny_seqItems hTI rfl ?_)
  show wpAny _ _ (Builtin.SmallTypes.ownedTupleIsFree (.ref z) >>= _) _ _ _
  refine wpAny_bind (wp_free hz hT0 fun h₁ f hz₁ hs₁ => ?_)
  simp only [Bool.false_eq_true, if_false]
  refine wpAny_bind ?_
  simp only [List.forIn_toArray, List.forIn_cons, List.forIn_nil]
  refine wpAny_bind (wpAny_bind (wpAny_holding ?_))
  show wpAny _ _ (Builtin.SmallTypes.nextOf (.ref i1) >>= _) _ _ _
  cases hx : xs[k1]? with
  | none =>
    refine wpAny_bind (wpAny_nextOf_list_end hh (h1.extBut hs₁.extBut D.i1z) (hl1.extBut hs₁.extBut D.l1z) hx fun h₂ e hs₂ he => ?_)
    exact hE h₂ e (fun c o c1 c2 _ x => hs₂ _ _ c2 (hs₁.extBut _ _ c1 x)) he
  | some x =>
    have hy : ys[k2]? = none := by rcases hend with h | h; rw [hx] at h; cases h; exact h
    refine wpAny_bind (wpAny_nextOf_list_item (h1.extBut hs₁.extBut D.i1z) (hl1.extBut hs₁.extBut D.l1z) hx fun h₂ h1₂ hs₂ => wpAny_pure (wpAny_pure ?_))
    refine wpAny_bind (wpAny_bind (wpAny_holding ?_))
    show wpAny _ _ (Builtin.SmallTypes.nextOf (.ref i2) >>= _) _ _ _
    refine wpAny_bind (wpAny_nextOf_list_end hh ((h2.extBut hs₁.extBut D.i2z).extBut hs₂.extBut D.i12.symm)
      ((hl2.extBut hs₁.extBut D.l2z).extBut hs₂.extBut D.l2i1) hy fun h₃ e hs₃ he => ?_)
    exact hE h₃ e (fun c o c1 c2 c3 x => hs₃ _ _ c3 (hs₂.extBut _ _ c2 (hs₁.extBut _ _ c1 x))) he
theorem next_zip_item2 {z TI TO T0 i1 i2 l1 l2 : Addr} {k1 k2 : Nat} {xs ys : Array Value} {x y f1 : Value} {o : Obj} {Q : Option Value → Shared → Prop} (D : ZipApart z TI TO i1 i2 l1 l2)
    (hz : s.heap.get? z = some (zipO TI TO (rawInt T0) f1)) (hT0 : s.heap.get? T0 = some o) (hTI : IsPair s.heap TI (.ref i1) (.ref i2))
    (h1 : s.heap.IsListIter i1 l1 k1) (h2 : s.heap.IsListIter i2 l2 k2) (hl1 : s.heap.IsList l1 xs) (hl2 : s.heap.IsList l2 ys) (hx : xs[k1]? = some x) (hy : ys[k2]? = some y)
    (hQ : ∀ h' f, h'.get? z = some (zipO TI TO (rawInt T0) f) → h'.IsListIter i1 l1 (k1 + 1) → h'.IsListIter i2 l2 (k2 + 1) → IsPair h' s.heap.objs.size x y →
      (∀ c o, c ≠ z → c ≠ i1 → c ≠ i2 → s.heap.get? c = some o → h'.get? c = some o) → Q (some (.ref s.heap.objs.size)) { s with heap := h' }) :
    wpAny (model prog w) A (pyNext (.ref z)) Q E s := by
  have hT : s.TypeIs (.ref z) "zip" := ⟨_, hz, rfl⟩
  unfold pyNext
  exact wpAny_bind (wpAny_attempt (wpAny_callSpecial?_slot (name := Str.ofString "__next__") hT PySem.F.slot_zip_next
    (wpAny_call_entry PySem.F.slot_zip_next hT PySem.F.entry_zip_next
      (zip_next_item2 D hz hT0 hTI h1 h2 hl1 hl2 hx hy fun h' f a1 a2 a3 a4 a5 => wpAny_pure (hQ h' f a1 a2 a3 a4 a5)) (PySem.F.args_zip_next_1 _))))
theorem next_zip_end2 {z TI TO T0 i1 i2 l1 l2 : Addr} {k1 k2 : Nat} {xs ys : Array Value} {f1 : Value} {o : Obj} {Q : Option Value → Shared → Prop} (hh : A.handled = none) (D : ZipApart z TI TO i1 i2 l1 l2)
    (hz : s.heap.get? z = some (zipO TI TO (rawInt T0) f1)) (hT0 : s.heap.get? T0 = some o) (hTI : IsPair s.heap TI (.ref i1) (.ref i2))
    (h1 : s.heap.IsListIter i1 l1 k1) (h2 : s.heap.IsListIter i2 l2 k2) (hl1 : s.heap.IsList l1 xs) (hl2 : s.heap.IsList l2 ys) (hend : xs[k1]? = none ∨ ys[k2]? = none)
    (hQ : ∀ h', (∀ c o, c ≠ z → c ≠ i1 → c ≠ i2 → s.heap.get? c = some o → h'.get? c = some o) → Q none { s with heap := h' }) :
    wpAny (model prog w) A (pyNext (.ref z)) Q E s := by
  have hT : s.TypeIs (.ref z) "zip" := ⟨_, hz, rfl⟩
  unfold pyNext
  refine wpAny_bind (wpAny_attempt (wpAny_callSpecial?_slot (name := Str.ofString "__next__") hT PySem.F.slot_zip_next
    (wpAny_call_entry PySem.F.slot_zip_next hT PySem.F.entry_zip_next (zip_next_end2 hh D hz hT0 hTI h1 h2 hl1 hl2 hend fun h' e hk he => ?_) (PySem.F.args_zip_next_1 _))))
  obtain ⟨o, ho, hc⟩ := he
  refine wpAny_bind (wpAny_isInstance (T := "StopIteration") (b := true) ⟨o, ho, hc⟩ isSubtype_stop ?_)
  exact wpAny_pure (hQ _ hk)
/-- a zip of two lists that is drawn from into the list S -/
structure ZI (h0 h : Heap) (z TI TO i1 i2 l1 l2 S : Addr) (xs ys : List Value) (ds : List Dat) (i : Nat) (vs : List Value) (tups : List (Addr × Obj)) : Prop where
  zz : ∃ f0 f1, h.get? z = some (zipO TI TO f0 f1) ∧ ((f0 = .none ∧ f1 = .bool false) ∨ ∃ (T0 : Addr) (o : Obj), f0 = rawInt T0 ∧ h.get? T0 = some o ∧ T0 ∉ [z, TO, i1, i2, S])
  tI : IsPair h TI (.ref i1) (.ref i2)
  tO : ∃ a b, IsPair h TO a b
  j1 : h.IsListIter i1 l1 i
  j2 : h.IsListIter i2 l2 i
  m1 : h.IsList l1 xs.toArray
  m2 : h.IsList l2 ys.toArray
  sS : ∃ c, h.get? S = some (listOf vs.toArray c)
  k : ∀ b o, b ∉ [z, TO, i1, i2] → h0.get? b = some o → h.get? b = some o
  t : ∀ q ∈ tups, h.get? q.1 = some q.2 ∧ q.1 ∉ [z, TO, i1, i2, S] ∧ h0.get? q.1 = none
  d : DatAll tups vs (ds.take i)
theorem dat_nth : ∀ {l : List (Addr × Obj)} {vs : List Value} {ds : List Dat}, DatAll l vs ds → ∀ {i : Nat} {v : Value}, vs[i]? = some v → ∃ d, ds[i]? = some d ∧ DatIn l v d := fun {l vs ds} h {i v} e => by
  have hi : i < _ := (List.getElem?_eq_some_iff.mp e).1
  rw [h.length] at hi
  obtain ⟨v', e', hd⟩ := h.get hi
  rw [e] at e'
  cases e'
  exact ⟨_, List.getElem?_eq_getElem hi, hd⟩
theorem zip_loop {z TI TO i1 i2 l1 l2 S : Addr} {xs ys : List Value} {dx dy : List Dat} {h0 : Heap} {R : Result → Shared → Prop} (hh : A.in1.handled = none) (D : ZipApart z TI TO i1 i2 l1 l2) (hS : S ∉ [z, TI, TO, i1, i2, l1, l2]) (hS0 : h0.get? S = none)
    (hx : DatAll [] xs dx) (hy : DatAll [] ys dy) (hlen : xs.length < 1000) (res : Value)
    (hR : ∀ h' vs c tups, (∀ b o, b ∉ [z, TO, i1, i2] → h0.get? b = some o → h'.get? b = some o) → h'.get? S = some (listOf (List.toArray vs) c) → (∀ q ∈ tups, h'.get? q.1 = some q.2 ∧ h0.get? q.1 = none) →
      DatAll tups vs (List.zipWith (fun a b => Dat.tuple [a, b]) dx dy) → R (.ok (.ret res)) { s with heap := h' }) :
    ∀ (k i : Nat) (h : Heap) (vs : List Value) (tups : List (Addr × Obj)), min xs.length ys.length - i = k → i ≤ min xs.length ys.length → ZI h0 h z TI TO i1 i2 l1 l2 S xs ys (List.zipWith (fun a b => Dat.tuple [a, b]) dx dy) i vs tups →
    codeAny (model prog w) A (.builtin "list.extend.loop" ⟨[.ref S, .ref z, res], []⟩) R { s with heap := h } := by
  have nS : S ≠ z ∧ S ≠ TI ∧ S ≠ TO ∧ S ≠ i1 ∧ S ≠ i2 ∧ S ≠ l1 ∧ S ≠ l2 := by simpa using hS
  have S4 : S ∉ [z, TO, i1, i2] := by simp only [List.mem_cons, List.not_mem_nil, or_false, not_or]; exact ⟨nS.1, nS.2.2.1, nS.2.2.2.1, nS.2.2.2.2.1⟩
  have hdl : (List.zipWith (fun a b => Dat.tuple [a, b]) dx dy).length = min xs.length ys.length := by rw [List.length_zipWith, hx.length, hy.length]
  intro k
  induction k with
  | zero =>
    intro i h vs tups hk hi I
    have hin : i = min xs.length ys.length := by exact ar260 hk hi
    refine codeAny_builtin PySem.F.entry_extend_loop ?_
    rw [Around.under_plainId PySem.F.plain_extend_loop _]
    show wpAny _ A.in1 (pyNext (.ref z) >>= _) _ _ _
    obtain ⟨f0, f1, hz, hf⟩ := I.zz
    obtain ⟨c, hSo⟩ := I.sS
    have hend : xs.toArray[i]? = none ∨ ys.toArray[i]? = none := by
      rcases Nat.le_total xs.length ys.length with q | q
      · exact .inl (by rw [List.getElem?_toArray]; exact List.getElem?_eq_none (by exact ar261 hin q))
      · exact .inr (by rw [List.getElem?_toArray]; exact List.getElem?_eq_none (by exact ar262 hin q))
    have fin : ∀ h', (∀ c o, c ∉ [z, TO, i1, i2] → h.get? c = some o → h'.get? c = some o) → R (.ok (.ret res)) { s with heap := h' } := fun h' hk' => by
      refine hR h' vs c tups (fun b o hb e => hk' b o hb (I.k b o hb e)) (hk' _ _ S4 hSo) (fun q hq => ⟨hk' _ _ (fun m => (I.t q hq).2.1 ?_) (I.t q hq).1, (I.t q hq).2.2⟩) ?_
      · simp only [List.mem_cons, List.not_mem_nil, or_false] at m ⊢
        rcases m with m | m | m | m
        · exact .inl m
        · exact .inr (.inl m)
        · exact .inr (.inr (.inl m))
        · exact .inr (.inr (.inr (.inl m)))
      · have := I.d
        rw [hin, ← hdl, List.take_length] at this
        exact this
    rcases hf with ⟨rfl, rfl⟩ | ⟨T0, o, rfl, hT0, hT1⟩
    · obtain ⟨a, b, hTO⟩ := I.tO
      refine wpAny_bind (wpAny_pyNext_zip_end hh D hz I.tI hTO I.j1 I.j2 I.m1 I.m2 hend fun h' hk' => wpAny_pure (fin h' fun c o hc e => hk' c o (fun q => hc (by simp [q])) (fun q => hc (by simp [q])) (fun q => hc (by simp [q])) (fun q => hc (by simp [q])) e))
    · refine wpAny_bind (next_zip_end2 hh D hz hT0 I.tI I.j1 I.j2 I.m1 I.m2 hend fun h' hk' => wpAny_pure (fin h' fun c o hc e => hk' c o (fun q => hc (by simp [q])) (fun q => hc (by simp [q])) (fun q => hc (by simp [q])) e))
  | succ k ih =>
    intro i h vs tups hk hi I
    refine codeAny_builtin PySem.F.entry_extend_loop ?_
    rw [Around.under_plainId PySem.F.plain_extend_loop _]
    show wpAny _ A.in1 (pyNext (.ref z) >>= _) _ _ _
    obtain ⟨f0, f1, hz, hf⟩ := I.zz
    obtain ⟨c, hSo⟩ := I.sS
    have hvl : vs.length = i := by rw [I.d.length, List.length_take, hdl]; exact ar263 hi
    have hxi : xs[i]? = some (xs[i]'(by exact ar264 hk)) := List.getElem?_eq_getElem _
    have hyi : ys[i]? = some (ys[i]'(by exact ar265 hk)) := List.getElem?_eq_getElem _
    obtain ⟨d1, hd1, hi1⟩ := dat_nth hx hxi
    obtain ⟨d2, hd2, hi2⟩ := dat_nth hy hyi
    have hT : h.get? h.objs.size = none := by
      cases e : h.get? h.objs.size with
      | none => rfl
      | some o => exact absurd (Heap.lt_size e) (Nat.lt_irrefl _)
    have go : ∀ h', (∃ f1, h'.get? z = some (zipO TI TO (rawInt (h.objs.size)) f1)) ∨ (∃ (T0 : Addr) (o : Obj) (f1 : Value), h'.get? z = some (zipO TI TO (rawInt T0) f1) ∧ h.get? T0 = some o ∧ T0 ∉ [z, TO, i1, i2, S]) → (∃ a b, IsPair h' TO a b) → h'.IsListIter i1 l1 (i + 1) → h'.IsListIter i2 l2 (i + 1) →
        IsPair h' h.objs.size (xs[i]'(by exact ar264 hk)) (ys[i]'(by exact ar265 hk)) → (∀ c o, c ∉ [z, TO, i1, i2] → h.get? c = some o → h'.get? c = some o) →
        wpAny (model prog w) A.in1 (updateSeq S (·.push (.ref h.objs.size)) >>= fun _ => again (.builtin "list.extend.loop" ⟨[.ref S, .ref z, res], []⟩))
          (fun fin s' => match fin with | .done f => R (.ok f) s' | .again c' => c'.quiet = true ∧ codeAny (model prog w) A c' R s') (fun e s' => R (.error e) s') { s with heap := h' } := fun h' hz' hTO' h1' h2' hP hk' => by
      have hne : ∀ {b : Addr} {o : Obj}, h.get? b = some o → h.objs.size ≠ b := fun e q => by rw [← q, hT] at e; cases e
      have hSo' := hk' _ _ S4 hSo
      have hT4 : h.objs.size ∉ [z, TO, i1, i2, S] := by
        obtain ⟨_, _, hTO⟩ := I.tO
        obtain ⟨_, e1, _⟩ := I.j1
        obtain ⟨_, e2, _⟩ := I.j2
        simp only [List.mem_cons, List.not_mem_nil, or_false, not_or]
        exact ⟨hne hz, hne hTO, hne e1, hne e2, hne hSo⟩
      have up : ∀ b o, b ≠ S → h'.get? b = some o → (h'.update S (Obj.mapSeq (·.push (.ref h.objs.size)))).get? b = some o := fun b o hb e => (Heap.get?_update_other _ _ (Ne.symm hb)).trans e
      refine wpAny_bind (wpAny_updateSeq hSo' rfl (wpAny_pure ⟨plainId_quiet PySem.F.plain_extend_loop _, ih (i + 1) _ (vs ++ [.ref h.objs.size]) ((h.objs.size, { cls := .type "tuple", data := .seq [xs[i]'(by exact ar264 hk), ys[i]'(by exact ar265 hk)].toArray }) :: tups) (by exact ar266 hk) (by exact ar267 hk) ?_⟩)
        (by rw [List.size_toArray, sizeLine_eq]; exact ar268 hlen hk hvl) (by rw [Array.size_push, List.size_toArray, sizeLine_eq]; exact ar269 hlen hk hvl))
      have in5 : ∀ {b : Addr}, b ∉ [z, TO, i1, i2, S] → b ∉ [z, TO, i1, i2] ∧ b ≠ S := fun {b} hb => by
        simp only [List.mem_cons, List.not_mem_nil, or_false, not_or] at hb ⊢
        exact ⟨⟨hb.1, hb.2.1, hb.2.2.1, hb.2.2.2.1⟩, hb.2.2.2.2⟩
      obtain ⟨_, _, hTO''⟩ := hTO'
      have e0 := Heap.get?_update_self (Obj.mapSeq (·.push (Value.ref h.objs.size))) hSo' rfl
      refine ⟨?_, ?_, ⟨_, _, up _ _ nS.2.2.1.symm hTO''⟩, h1'.at fun o e => up _ o nS.2.2.2.1.symm e, h2'.at fun o e => up _ o nS.2.2.2.2.1.symm e, I.m1.at fun o e => up _ o nS.2.2.2.2.2.1.symm (hk' _ o ?_ e), I.m2.at fun o e => up _ o nS.2.2.2.2.2.2.symm (hk' _ o ?_ e), ⟨_, e0.trans (by simp only [Obj.mapSeq, List.push_toArray]; rfl)⟩, fun b o hb e => ?_, fun q hq => ?_, ?_⟩
      · rcases hz' with ⟨f, hz'⟩ | ⟨T0, o, f, hz', hT0, hT1⟩
        · exact ⟨_, f, up _ _ nS.1.symm hz', .inr ⟨h.objs.size, _, rfl, up _ _ (in5 hT4).2 hP, hT4⟩⟩
        · exact ⟨_, f, up _ _ nS.1.symm hz', .inr ⟨T0, o, rfl, up _ _ (in5 hT1).2 (hk' _ _ (in5 hT1).1 hT0), hT1⟩⟩
      · refine up _ _ nS.2.1.symm (hk' _ _ ?_ I.tI)
        simp only [List.mem_cons, List.not_mem_nil, or_false, not_or]
        exact ⟨D.TIz, D.TITO, D.TIi1, D.TIi2⟩
      · simp only [List.mem_cons, List.not_mem_nil, or_false, not_or]
        exact ⟨D.l1z, D.l1TO, D.l1i1, D.l1i2⟩
      · simp only [List.mem_cons, List.not_mem_nil, or_false, not_or]
        exact ⟨D.l2z, D.l2TO, D.l2i1, D.l2i2⟩
      · exact up _ _ (fun q => by rw [q, hS0] at e; cases e) (hk' _ _ hb (I.k _ _ hb e))
      · refine memc hq ?_ fun q hq => ?_
        · refine ⟨up _ _ (in5 hT4).2 hP, hT4, ?_⟩
          cases e : h0.get? h.objs.size with
          | none => rfl
          | some o => have := I.k _ _ (in5 hT4).1 e; rw [hT] at this; cases this
        · have z := I.t q hq
          exact ⟨up _ _ (in5 z.2.1).2 (hk' _ _ (in5 z.2.1).1 z.1), z.2⟩
      · have e1 : (List.zipWith (fun a b => Dat.tuple [a, b]) dx dy).take (i + 1) = (List.zipWith (fun a b => Dat.tuple [a, b]) dx dy).take i ++ [Dat.tuple [d1, d2]] := by
          rw [List.take_add_one]
          congr 1
          rw [List.getElem?_zipWith, hd1, hd2]
          rfl
        rw [e1]
        exact (I.d.mono fun p hp => .tail _ hp).append (.one (.tuple (.head _) (.cons (hi1.mono fun _ q => absurd q List.not_mem_nil) (.one (hi2.mono fun _ q => absurd q List.not_mem_nil)))))
    rcases hf with ⟨rfl, rfl⟩ | ⟨T0, o, rfl, hT0, hT1⟩
    · obtain ⟨a, b, hTO⟩ := I.tO
      refine wpAny_bind (wpAny_pyNext_zip_item D hz I.tI hTO I.j1 I.j2 I.m1 I.m2 (by rw [List.getElem?_toArray]; exact hxi) (by rw [List.getElem?_toArray]; exact hyi) fun h' a1 a2 a3 a4 a5 _ hk' => ?_)
      exact go h' (.inl ⟨_, a1⟩) ⟨_, _, a2⟩ a3 a4 a5 fun c o hc e => hk' c o (fun q => hc (by simp [q])) (fun q => hc (by simp [q])) (fun q => hc (by simp [q])) (fun q => hc (by simp [q])) e
    · refine wpAny_bind (next_zip_item2 D hz hT0 I.tI I.j1 I.j2 I.m1 I.m2 (by rw [List.getElem?_toArray]; exact hxi) (by rw [List.getElem?_toArray]; exact hyi) fun h' f a1 a3 a4 a5 hk' => ?_)
      obtain ⟨a, b, hTO⟩ := I.tO
      exact go h' (.inr ⟨T0, o, f, a1, hT0, hT1⟩) ⟨a, b, hk' _ _ D.TOz D.TOi1 D.TOi2 hTO⟩ a3 a4 a5 fun c o hc e => hk' c o (fun q => hc (by simp [q])) (fun q => hc (by simp [q])) (fun q => hc (by simp [q])) e
theorem list_zip {z TI TO i1 i2 l1 l2 : Addr} {xs ys : List Value} {dx dy : List Dat} {Q : Value → Shared → Prop} (hh : A.handled = none) (D : ZipApart z TI TO i1 i2 l1 l2)
    (hst : IsZip s.heap z TI TO .none ∧ IsPair s.heap TI (.ref i1) (.ref i2) ∧ (∃ a b, IsPair s.heap TO a b) ∧ s.heap.IsListIter i1 l1 0 ∧ s.heap.IsListIter i2 l2 0 ∧ s.heap.IsList l1 xs.toArray ∧ s.heap.IsList l2 ys.toArray)
    (hx : DatAll [] xs dx) (hy : DatAll [] ys dy) (hlen : xs.length < 1000)
    (hQ : ∀ h' a vs c tups, (∀ b o, b ∉ [z, TO, i1, i2] → s.heap.get? b = some o → h'.get? b = some o) → s.heap.get? a = none → h'.get? a = some (listOf (List.toArray vs) c) → (∀ q ∈ tups, h'.get? q.1 = some q.2 ∧ s.heap.get? q.1 = none) →
      DatAll tups vs (List.zipWith (fun a b => Dat.tuple [a, b]) dx dy) → Q (.ref a) { s with heap := h' }) :
    wpAny (model prog w) A (call (.type "list") [.ref z]) Q E s := by
  refine byG fun G9 k9 => ?_; rcases hst with ⟨hz, hTI, hTO, h1, h2, hl1, hl2⟩; all_goals (refine k9 ?_; clear k9 G9)
  have hT : s.heap.get? s.heap.objs.size = none := by
    cases e : s.heap.get? s.heap.objs.size with
    | none => rfl
    | some o => exact absurd (Heap.lt_size e) (Nat.lt_irrefl _)
  have hne : ∀ {b : Addr} {o : Obj}, s.heap.get? b = some o → s.heap.objs.size ≠ b := fun e q => by rw [← q, hT] at e; cases e
  have hSf : s.heap.objs.size ∉ [z, TI, TO, i1, i2, l1, l2] := by
    obtain ⟨_, _, hTO⟩ := hTO
    obtain ⟨_, e1, _⟩ := h1
    obtain ⟨_, e2, _⟩ := h2
    obtain ⟨_, e3, _⟩ := hl1
    obtain ⟨_, e4, _⟩ := hl2
    simp only [List.mem_cons, List.not_mem_nil, or_false, not_or]
    exact ⟨hne hz, hne hTI, hne hTO, hne e1, hne e2, hne e3, hne e4⟩
  refine callType_codes (Q₁ := fun obj s₁ => obj = .ref s.heap.objs.size ∧ s₁ = { s with heap := s.heap.push { cls := .type "list", data := .seq #[] } }) PySem.F.called_list (PySem.F.typeCall_list_1 _) PySem.F.entry_list_init
    (code_list_new _ ⟨rfl, rfl⟩) fun obj s₁ h₁ => ?_
  obtain ⟨rfl, rfl⟩ := h₁
  have up0 : ∀ b o, s.heap.get? b = some o → (s.heap.push { cls := .type "list", data := .seq #[] }).get? b = some o := fun b o e => Heap.get?_push_of_some _ e
  have hS : (s.heap.push { cls := .type "list", data := .seq #[] }).get? s.heap.objs.size = some { cls := .type "list", data := .seq #[] } := Heap.get?_push_size _ rfl
  refine ⟨⟨_, hS, rfl⟩, PySem.F.args_list_init_2 _ _, ?_⟩
  show wpAny _ _ (do let old ← PySem.Builtin.List.listItems (.ref s.heap.objs.size); PySem.Builtin.List.listUpdate (.ref s.heap.objs.size) (fun _ => #[]); letGo old.toList.reverse; PySem.Builtin.List.listExtendWith (.ref s.heap.objs.size) (.ref z) .none) _ _ _
  refine wpAny_bind ?_
  unfold PySem.Builtin.List.listItems
  refine wpAny_bind (wpAny_seqItems hS rfl (wpAny_pure ?_))
  show wpAny _ _ (updateSeq s.heap.objs.size (fun _ => #[]) >>= fun _ => letGo (#[] : Array Value).toList.reverse >>= fun _ => PySem.Builtin.List.listExtendWith (.ref s.heap.objs.size) (.ref z) .none) _ _ _
  refine wpAny_bind (wpAny_updateSeq hS rfl ?_)
  have hS₂ := Heap.get?_update_self (Obj.mapSeq (fun _ => (#[] : Array Value))) hS rfl
  have up1 : ∀ b o, b ≠ s.heap.objs.size → (s.heap.push { cls := .type "list", data := .seq #[] }).get? b = some o → ((s.heap.push { cls := .type "list", data := .seq #[] }).update s.heap.objs.size (Obj.mapSeq (fun _ => (#[] : Array Value)))).get? b = some o :=
    fun b o hb e => (Heap.get?_update_other _ _ (Ne.symm hb)).trans e
  refine wpAny_bind (wpAny_letGo ?_)
  unfold PySem.Builtin.List.listExtendWith
  have hz₂ := up1 _ _ (hne hz).symm (up0 _ _ hz)
  have hTy : ∀ {s' : Shared}, s'.heap.get? z = some (zipO TI TO .none (.bool false)) → s'.TypeIs (.ref z) "zip" := fun e => ⟨_, e, rfl⟩
  refine wpAny_bind (wpAny_typeOf (hTy hz₂) ?_)
  have g1 : PySem.Builtin.List.listSameRef (.ref s.heap.objs.size) (.ref z) = false := by simp [PySem.Builtin.List.listSameRef, hne hz]
  have g2 : (Value.type "zip" == Value.type "list") = false := by decide
  have g3 : (Value.type "zip" == Value.type "tuple") = false := by decide
  simp only [g1, g2, g3, Bool.or_false, Bool.false_eq_true, if_false]
  refine wpAny_bind (wpAny_pyIter_zip hz₂ ?_)
  refine wpAny_bind (wpAny_holding ?_)
  unfold PySem.Builtin.List.listLengthHint
  refine wpAny_bind (wpAny_specialOf (hTy hz₂) F.zip_no_len ?_)
  show wpAny _ _ (specialOf (Value.ref z) (Str.ofString "__length_hint__") >>= _) _ _ _
  refine wpAny_bind (wpAny_specialOf (hTy hz₂) F.zip_no_hint ?_)
  refine wpAny_pure ?_
  show wpAny _ _ (rule "list.extend.makes-room" >>= fun _ => PySem.Builtin.List.listTouch (.ref s.heap.objs.size) >>= fun _ =>
    again (.builtin "list.extend.loop" ⟨[.ref s.heap.objs.size, .ref z, .none], []⟩)) _ _ _
  refine wpAny_bind (wpAny_rule ?_)
  refine wpAny_bind ?_
  show wpAny _ _ (updateSeq s.heap.objs.size (·.push .none) >>= fun _ => updateSeq s.heap.objs.size (·.pop)) _ _ _
  refine wpAny_bind (wpAny_updateSeq hS₂ rfl ?_)
  have hS₃ := Heap.get?_update_self (Obj.mapSeq (·.push Value.none)) hS₂ rfl
  refine wpAny_updateSeq (hz := by seq_fits) hS₃ rfl ?_
  have hS₄ := Heap.get?_update_self (Obj.mapSeq (·.pop)) hS₃ rfl
  have up2 : ∀ b o, b ≠ s.heap.objs.size → s.heap.get? b = some o → ((((s.heap.push { cls := .type "list", data := .seq #[] }).update s.heap.objs.size (Obj.mapSeq (fun _ => (#[] : Array Value)))).update s.heap.objs.size (Obj.mapSeq (·.push Value.none))).update s.heap.objs.size (Obj.mapSeq (·.pop))).get? b = some o :=
    fun b o hb e => (Heap.get?_update_other _ _ (Ne.symm hb)).trans ((Heap.get?_update_other _ _ (Ne.symm hb)).trans (up1 b o hb (up0 b o e)))
  refine wpAny_pure ⟨plainId_quiet PySem.F.plain_extend_loop _, ?_⟩
  have hh' : A.in1.in1.handled = none := hh
  obtain ⟨a, b, hTO⟩ := hTO
  refine zip_loop (s := s) (h0 := s.heap) hh' D hSf hT hx hy hlen .none (fun h' vs c tups k1 k2 k3 k4 => ⟨rfl, hQ h' _ vs c tups k1 hT k2 k3 k4⟩) _ 0 _ [] [] rfl (Nat.zero_le _) ?_
  exact ⟨⟨_, _, up2 _ _ (hne hz).symm hz, .inl ⟨rfl, rfl⟩⟩, up2 _ _ (hne hTI).symm hTI, ⟨a, b, up2 _ _ (hne hTO).symm hTO⟩, h1.at fun o e => up2 _ o (hne e).symm e, h2.at fun o e => up2 _ o (hne e).symm e, hl1.at fun o e => up2 _ o (hne e).symm e, hl2.at fun o e => up2 _ o (hne e).symm e,
    ⟨_, hS₄.trans rfl⟩, fun b o _ e => up2 b o (hne e).symm e, fun q hq => absurd hq List.not_mem_nil, .nil⟩
end
-- H1
theorem dat_ints : ∀ {news : List (Addr × Obj)} {vs : List Value} {xs : List Int}, IntsAre vs xs → DatAll news vs (xs.map Dat.int)
  | _, _, _, .nil => .nil
  | _, _, _, .cons _ _ r => .cons (.int _ _) (dat_ints r)
theorem zip_pairD : ∀ (ns : List (List Nat)) (bs : List Nat), List.zipWith (fun a b => Dat.tuple [a, b]) ((ns.map mkS).map Dat.str) ((intsOf bs).map Dat.int) = (ns.zip bs).map pairD
  | [], bs => by simp
  | _ :: _, [] => by simp [intsOf]
  | n :: ns, b :: bs => by
    have := zip_pairD ns bs
    unfold intsOf at this ⊢
    rw [List.map_cons, List.map_cons, List.map_cons, List.map_cons, List.zipWith_cons_cons, this, List.zip_cons_cons, List.map_cons]
    rfl
/-- a callee has left all as it was, and has made what is in tups -/
theorem Core.adds {g h h' : Heap} {Z : Addr} {c3 c4 : Obj} {l tups : List (Addr × Obj)} {m : Str → Option Value} (F : Fr g Z h m) (C : Core g h Z c3 c4 l) (k : h.StaysIn h') (ht : ∀ q ∈ tups, h'.get? q.1 = some q.2 ∧ h.get? q.1 = none) : Core g h' Z c3 c4 (tups ++ l) := by
  induction tups with
  | nil => exact C.stays k
  | cons q r ih =>
    have C2 := ih fun p hp => ht p (.tail _ hp)
    have z := ht q (.head _)
    have C1 := Core.add F C k z.2 z.1
    refine ⟨fun p hp => ?_, fun p hp => ?_⟩
    · refine memc hp ?_ fun p hp => ?_
      · exact C2.n _ (.head _)
      · refine memc hp ?_ fun p hp => ?_
        · exact C2.n _ (.tail _ (.head _))
        · refine memc hp ?_ fun p hp => ?_
          · exact C1.mem _ (.head _)
          · exact C2.mem _ hp
    · refine memc hp ?_ fun p hp => ?_
      · exact C1.d _ (.head _)
      · exact C2.d _ hp
theorem idx_ints (l : List Nat) (x : Nat) : (intsOf l).idxOf (x : Int) = l.idxOf x := by
  unfold intsOf
  induction l with
  | nil => rfl
  | cons a l ih =>
    rw [List.map_cons, List.idxOf_cons, List.idxOf_cons, ih]
    by_cases h : a = x
    · subst h; simp
    · have h2 : ((a : Int) == (x : Int)) = false := by rw [beq_eq_false_iff_ne]; exact ar167 h
      have h3 : (a == x) = false := by rw [beq_eq_false_iff_ne]; exact h
      rw [h2, h3]
theorem lay_ints : ∀ l : List Nat, (∀ x ∈ l, x < 100) → PyData.canLayAll0 ((intsOf l).map PyData.int) = true ∧ PyData.depthAll ((intsOf l).map PyData.int) = 0 ∧ PyData.weightAll ((intsOf l).map PyData.int) ≤ 8 * l.length
  | [], _ => ⟨rfl, rfl, Nat.le_refl _⟩
  | a :: l, h => by
    obtain ⟨h1, h2, h3⟩ := lay_ints l fun x hx => h x (.tail _ hx)
    have ha := h a (.head _)
    have h4 : PyData.weight (.int (a : Int)) ≤ 7 := by
      unfold PyData.weight
      split
      · exact (Nat.zero_le _)
      · rename_i h0
        have h5 : a ≠ 0 := fun e => h0 (by subst e; rfl)
        have : a.log2 < 7 := (Nat.log2_lt h5).mpr (by exact ar168 ha)
        rw [Int.natAbs_natCast]
        exact (Nat.le_trans (Nat.add_le_add (Nat.le_of_lt_succ this) (Nat.le_refl 1)) (by decide))
    have e : (intsOf (a :: l)).map PyData.int = PyData.int (a : Int) :: (intsOf l).map PyData.int := rfl
    rw [e]
    refine ⟨?_, ?_, ?_⟩
    · rw [PyData.canLayAll0, h1]; rfl
    · rw [PyData.depthAll, h2]; rfl
    · rw [PyData.weightAll, List.length_cons]; exact ar169 h3 h4
theorem lay_small {l : List Nat} (h : ∀ x ∈ l, x < 100) (hl : l.length < 10) : PyData.layable0 (.list ((intsOf l).map PyData.int)) = true := by
  obtain ⟨h1, h2, h3⟩ := lay_ints l h
  unfold PyData.layable0
  rw [Bool.and_eq_true, Bool.and_eq_true, decide_eq_true_eq, decide_eq_true_eq]
  refine ⟨⟨?_, ?_⟩, ?_⟩
  · rw [PyData.canLay0]; exact h1
  · rw [PyData.depth, h2]; decide
  · rw [PyData.weight]; exact ar170 hl h3
-- M24
theorem check_eq {w : World} {pp : Program} {loose : List Str} {mg mb : Str → Option Value} {h₀ : Heap} {dp un : Nat} {fr : Option (List Env)} {gd : Option (List Code)} {s : Shared} {Q : Value → Shared → Prop} {x : Str} {tx : Tok} {b : Bool} (e : checkP x.cps.toList = b)
    (k₀ : h₀.StaysIn s.heap) (X : (hd.heap_39 w.params).In h₀) (T : TopRead pp loose mg mb h₀) (hroom : dp + 2 < recursionLimit)
    (ha : x.cps.all (· < 128) = true) (hn : x.cps.size < 1000)
    (h : ∀ h' tk g', s.heap.StaysIn h' → (AllBare s.gens → AllBare g') → Q (.bool b) { s with heap := h', toks := tk, gens := g' }) :
    wpAny (model PR w) (AA dp un fr gd) (call (.ref 62) [.str x tx]) Q NoE s := check_spec k₀ X T hroom ha hn (e ▸ h)
theorem strs_rev : ∀ {vs : List Value} {xs : List Str}, StrsAre vs xs → StrsAre vs.reverse xs.reverse
  | _, _, .nil => .nil
  | _, _, .cons x t r => by
    rw [List.reverse_cons, List.reverse_cons]
    exact strs_append (strs_rev r) (.cons x t .nil)
theorem rev_flat_len (l : List (List Nat)) : l.reverse.flatten.length = l.flatten.length := by
  rw [List.length_flatten, List.length_flatten, List.map_reverse, List.sum_reverse]
theorem rev_flat_mem {l : List (List Nat)} {c : Nat} (h : c ∈ l.reverse.flatten) : c ∈ l.flatten := by
  obtain ⟨x, hx, hc⟩ := List.mem_flatten.mp h
  exact List.mem_flatten.mpr ⟨x, List.mem_reverse.mp hx, hc⟩
-- M26
theorem rows_snoc : ∀ {cells : List (Addr × Obj)} {rws : List (List Int)} {a : Addr} {vs : List Value} {n : Nat} {r : List Int}, RowsAre cells rws → IntsAre vs r → RowsAre (cells ++ [(a, listOf (List.toArray vs) n)]) (rws ++ [r])
  | _, _, _, _, _, _, .nil, k => .cons k .nil
  | _, _, _, _, _, _, .cons h r, k => .cons h (rows_snoc r k)
-- M40
/-- what stands between two steps back -/
inductive BackJ (pa : Addr) (rest : List (Addr × Obj)) (B0 : List Nat) (i : Nat) (m : Str → Option Value) (news : List (Addr × Obj)) : Prop
  | mk (bl : Addr) (bv : List Value) (bn : Nat) (e : news = (bl, listOf (List.toArray bv) bn) :: rest) (hi : IntsAre bv (intsOf (bAt B0 (2 - i)))) (mb : m (Str.ofString "balls") = some (.ref bl)) (mp : m (Str.ofString "past") = some (.ref pa))
-- law
set_option maxHeartbeats 8000000 in
theorem law_true : PySem.Challenge.rw_sc0052_01.Holds := law_at (by
  intro mg mb G Y fa oo pm cd doc dV kV ho hd9 hcd hD9 hmg hgens args vals as9 hpre hlay hrd hwl hlo
  have KX := km_in_of Y
  km_tabs Y
  have XM := (Ground.X G).1
  have V := (Ground.X G).2
  refine Ground.open G ?_
  intro T0 B D9 TE TW
  try (refine guard_noD D9 (by decide +kernel) ?_; clear D9)
  km_lay T0 hmg ho hd9 cd
  clear hmg
  wrow_args hpre hlay hrd hwl hlo
  all_goals (
    first | refine callC_kw (enter_call ?_) | refine enter_call ?_
    w_top on
    refine post_true (by assumption) (fun _ _ => rfl) ?hp9 ?_
    (case hp9 => first | rfl | wrow_post)
    w_call any ho hd9 hcd hD9 T0 F
    clear hd9
    kn_ghosts F T0
    k_drop
    skip)
  rename_i wns hs hlay0 hL1 hr1 hl2 w8 w7 sc wvs w4 hL0 ra w1 r0 hI hr hlen hcond h1 tk1 c4 c3 c2 c1 hc4 hc3 hc2 hc1 X0 Xg TTt Kb F N l106
  have Tg := topRead_of TTt
  have TT : Hid _ := ⟨TTt⟩
  have CC : Hid _ := ⟨codeHd⟩
  have hsc := lifted
  have hd1 : c1.data = .cell none := hc1
  have hd2 : c2.data = .cell none := hc2
  have hd3 : c3.data = .cell none := hc3
  have hd4 : c4.data = .cell none := hc4
  obtain ⟨m, hm, Fm⟩ : ∃ m : Str → Option Value, m (Str.ofString "script") = some (.ref sc) ∧ Fr (ghostOf s1.heap [(110, 106)]) s1.heap.objs.size h1 m := ⟨_, rfl, F⟩
  clear hc1 hc2 hc3 hc4 TTt codeHd lifted F Kb X0 hD9 hcond hr r0 w1 ra hL0 hl2 hr1 hL1 hlay0 hs hT9 TW TE B T0 V XM hT8 hcd ho G Y
  refine wpAny_mono (E := NoE) ?_ (fun _ _ q => q) (fun _ _ e => e.elim)
  show wpAny _ _ _ _ _ _
  k_fold
  generalize hgg : ghostOf s1.heap [(110, 106)] = g at *
  generalize hZ : s1.heap.objs.size = Z at *
  walk_at "mine go"
  refine drawn_spec Fm.keep Xg Tg (by decide) (stays_list Fm.keep hsc) hI (by exact ar181 hlen) fun h2 tk2 g2 T an aw vn vw n1 n2 tt xs words text k2 hb2 hT0 ha0 hw0 hTup han haw hvn hvw hxl hdg => ?_
  have F2 := fr_stays Fm k2
  obtain ⟨N2, l2⟩ := news_fresh Fm N (news_stays N k2) ha0 han
  obtain ⟨N3, l3⟩ := news_fresh Fm N (news_stays N k2) hw0 haw
  have N4 : News g _ h2 ((an, listOf vn.toArray n1) :: (aw, listOf vw.toArray n2) :: _) := fun q hq => by
    refine memc hq ?_ fun q hq => ?_
    · exact N2 _ (.head _)
    · exact N3 q hq
  clear N2 N3 N Fm k2
  have nn : ∀ a : Addr, (∀ p ∈ [(Z + 1 + 1 + 1 + 1, c4), (Z + 1 + 1 + 1, c3), (Z + 1 + 1, c2), (Z + 1, c1), (106, tabObj #[])], p.1 ≠ a) → (@Ne Nat (Z + 1) a) ∧ (@Ne Nat (Z + 1 + 1) a) ∧ (@Ne Nat (Z + 1 + 1 + 1) a) ∧ (@Ne Nat (Z + 1 + 1 + 1 + 1) a) ∧ @Ne Nat 106 a := fun a h =>
    ⟨h _ (.tail _ (.tail _ (.tail _ (.head _)))), h _ (.tail _ (.tail _ (.head _))), h _ (.tail _ (.head _)), h _ (.head _), h _ (.tail _ (.tail _ (.tail _ (.tail _ (.head _)))))⟩
  have dn := nn an l2
  have dw := nn aw l3
  have hlx : (mkS text).cps.size < 1000 := by
    have h9 := draw_len (names5.take (4 + wns.length % 2)) xs [] [] fun n hn => List.mem_of_mem_take hn
    rw [hdg, List.length_take, List.length_nil] at h9
    have : names5.length = 5 := rfl
    show text.length < 1000
    dsimp only at h9
    exact ar182 h9
  clear nn l2 l3
  walk_at "mine go"
  rename Fr _ _ _ _ => F5
  rename News _ _ _ _ => N5
  rename Obj => c1'
  rename c1'.data = _ => hd1'
  have z106 := N5 (106, _) (.tail _ (.tail _ (.tail _ (.tail _ (.tail _ (.tail _ (.head _)))))))
  refine lexer_spec F5.keep Xg TT.out (by decide) CC.out z106.1 z106.2.2 hlx fun h6 tk6 R nl k6 t106 hL0 hnl hnf => ?_
  have hL : LexAt ww R text 1 [] nl := hL0
  clear hL0
  have F6 := fr_but F5 k6 (fun q => z106.2.1 (List.mem_singleton.mp q).symm) (fun a q => by rw [List.mem_singleton.mp q]; exact z106.2.2)
  have hown : ∀ q ∈ [(an, listOf vn.toArray n1), (aw, listOf vw.toArray n2), (Z + 1 + 1 + 1 + 1, c4), (Z + 1 + 1 + 1, c3), (Z + 1 + 1, c2), (Z + 1, c1'), (106, tabObj (lexTab R.cr))], q.1 ∉ R.addrs := fun q hq e => by
    rw [← hL.addr] at e
    obtain ⟨r, hr, e2⟩ := List.mem_map.mp e
    have h9 := hnf r hr
    rw [e2] at h9
    refine none_ex h9 ?_
    clear h9 e2 e hr
    refine memc hq ?_ fun q hq => ?_
    · exact ⟨_, (N5 (an, _) (.head _)).1⟩
    refine memc hq ?_ fun q hq => ?_
    · exact ⟨_, (N5 (aw, _) (.tail _ (.head _))).1⟩
    refine memc hq ?_ fun q hq => ?_
    · exact ⟨_, (N5 (_, c4) (.tail _ (.tail _ (.head _)))).1⟩
    refine memc hq ?_ fun q hq => ?_
    · exact ⟨_, (N5 (_, c3) (.tail _ (.tail _ (.tail _ (.head _))))).1⟩
    refine memc hq ?_ fun q hq => ?_
    · exact ⟨_, (N5 (_, c2) (.tail _ (.tail _ (.tail _ (.tail _ (.head _)))))).1⟩
    refine memc hq ?_ fun q hq => ?_
    · exact ⟨_, (N5 (_, c1') (.tail _ (.tail _ (.tail _ (.tail _ (.tail _ (.head _))))))).1⟩
    refine memc hq ?_ fun q hq => ?_
    · exact ⟨_, z106.1⟩
    cases hq
  have N6 : News g Z h6 ([(an, listOf vn.toArray n1), (aw, listOf vw.toArray n2), (Z + 1 + 1 + 1 + 1, c4), (Z + 1 + 1 + 1, c3), (Z + 1 + 1, c2), (Z + 1, c1'), (106, tabObj (lexTab R.cr))] ++ nl) := fun q hq => by
    rcases List.mem_append.mp hq with hq | hq
    · have old : ∀ p ∈ [(an, listOf vn.toArray n1), (aw, listOf vw.toArray n2), (Z + 1 + 1 + 1 + 1, c4), (Z + 1 + 1 + 1, c3), (Z + 1 + 1, c2), (Z + 1, c1'), (106, tabObj #[])], p.1 ≠ 106 → h6.get? p.1 = some p.2 ∧ p.1 ≠ Z ∧ g.get? p.1 = none := fun p hp hne => ⟨k6 _ _ (fun q => hne (List.mem_singleton.mp q)) (N5 p hp).1, (N5 p hp).2⟩
      refine memc hq ?_ fun q hq => ?_
      · exact old _ (.head _) (by refine neN ?_; dsimp only; exact ar183 dn)
      refine memc hq ?_ fun q hq => ?_
      · exact old _ (.tail _ (.head _)) (by refine neN ?_; dsimp only; exact ar183 dw)
      refine memc hq ?_ fun q hq => ?_
      · exact old _ (.tail _ (.tail _ (.head _))) (by refine neN ?_; dsimp only; exact ar184 l106)
      refine memc hq ?_ fun q hq => ?_
      · exact old _ (.tail _ (.tail _ (.tail _ (.head _)))) (by refine neN ?_; dsimp only; exact ar185 l106)
      refine memc hq ?_ fun q hq => ?_
      · exact old _ (.tail _ (.tail _ (.tail _ (.tail _ (.head _))))) (by refine neN ?_; dsimp only; exact ar186 l106)
      refine memc hq ?_ fun q hq => ?_
      · exact old _ (.tail _ (.tail _ (.tail _ (.tail _ (.tail _ (.head _)))))) (by refine neN ?_; dsimp only; exact Nat.ne_of_gt (Nat.lt_trans l106 (Nat.lt_add_of_pos_right (by decide))))
      refine memc hq ?_ fun q hq => ?_
      · exact ⟨t106, z106.2⟩
      cases hq
    · refine ⟨hnl q hq, fun e => ?_, ?_⟩
      · refine byG fun G9 k9 => ?_; rcases F5.ns with ⟨oL, es, ep, ho, _⟩; all_goals (refine k9 ?_; clear k9 G9)
        have h9 := hnf q hq
        rw [e] at h9; dsimp only at h9; rw [h9] at ho; cases ho
      · cases e2 : g.get? q.1 with
        | none => rfl
        | some o2 => have h8 := F5.keep _ _ e2; have h9 := hnf q hq; dsimp only at h9; rw [h9] at h8; cases h8
  clear N5 F5 k6 hnl hnf t106
  walk_at "mine go"
  rename Fr _ _ _ _ => F7
  rename News _ _ _ _ => N7
  have hch : Chunked words text := by
    have := draw_chunked (names5.take (4 + wns.length % 2)) xs [] [] (fun n hn => (by decide : ∀ n ∈ names5, n ≠ []) n (List.mem_of_mem_take hn)) .nil
    rw [hdg] at this
    exact this
  have hwl : words.length < 1000 := by
    have h9 := draw_wlen (names5.take (4 + wns.length % 2)) xs [] []
    rw [hdg, List.length_take, List.length_nil] at h9
    have : names5.length = 5 := rfl
    dsimp only at h9
    exact ar187 h9
  refine words_spec F7.keep Xg Tg (by decide) hL (fun p hp => ⟨(N7 p (List.mem_append_right _ hp)).1, (N7 p (List.mem_append_right _ hp)).2.2⟩) (hch.lexes [] (fun _ q => nomatch q)) hlx hwl fun h8 tk8 td vd nd nl8 line8 k8 hL8 hln8 hn8 htd0 htd hvd => ?_
  obtain ⟨F8, N8⟩ := lex_on F7 N7 hL hL8 hown k8 hn8
  have htdn : ∀ p ∈ [(an, listOf vn.toArray n1), (aw, listOf vw.toArray n2), (Z + 1 + 1 + 1 + 1, c4), (Z + 1 + 1 + 1, c3), (Z + 1 + 1, c2), (Z + 1, c1'), (106, tabObj (lexTab R.cr))] ++ nl, p.1 ≠ td := fun p hp e => by
    have := (N7 p hp).1
    dsimp only at htd0
    rw [e, htd0] at this; cases this
  have hasc : ∀ w ∈ words, ∀ c ∈ w, c < 128 := by
    have h9 := draw_ascii (names5.take (4 + wns.length % 2)) xs [] [] (fun n hn => List.mem_of_mem_take hn) (fun _ q => nomatch q)
    rw [hdg] at h9
    exact h9
  obtain ⟨rst, hrst⟩ : ∃ r, r = [(td, listOf vd.toArray nd), (an, listOf vn.toArray n1), (aw, listOf vw.toArray n2), (Z + 1 + 1 + 1 + 1, c4), (Z + 1 + 1 + 1, c3), (Z + 1, c1'), (106, tabObj (lexTab R.cr))] ++ nl8 := ⟨_, rfl⟩
  have htN : News g Z h8 [(td, listOf vd.toArray nd)] := fun q hq => by
    rw [List.mem_singleton.mp hq]
    refine ⟨htd, fun e => ?_, ?_⟩
    · refine byG fun G9 k9 => ?_; rcases F7.ns with ⟨oL, es, ep, ho, _⟩; all_goals (refine k9 ?_; clear k9 G9)
      dsimp only at e htd0
      rw [← e, htd0] at ho; cases ho
    · cases e2 : g.get? td with
      | none => rfl
      | some o2 => have h8 := F7.keep _ _ e2; dsimp only at htd0; rw [htd0] at h8; cases h8
  have N10 : News g Z h8 ((Z + 1 + 1, c2) :: rst) := fun q hq => by
    rw [hrst] at hq
    refine memc hq ?_ fun q hq => ?_
    · exact N8 _ (List.mem_append_left _ (.tail _ (.tail _ (.tail _ (.tail _ (.head _))))))
    · rcases List.mem_append.mp hq with hq | hq
      · refine memc hq ?_ fun q hq => ?_
        · exact htN _ (.head _)
        refine memc hq ?_ fun q hq => ?_
        · exact N8 _ (List.mem_append_left _ (.head _))
        refine memc hq ?_ fun q hq => ?_
        · exact N8 _ (List.mem_append_left _ (.tail _ (.head _)))
        refine memc hq ?_ fun q hq => ?_
        · exact N8 _ (List.mem_append_left _ (.tail _ (.tail _ (.head _))))
        refine memc hq ?_ fun q hq => ?_
        · exact N8 _ (List.mem_append_left _ (.tail _ (.tail _ (.tail _ (.head _)))))
        refine memc hq ?_ fun q hq => ?_
        · exact N8 _ (List.mem_append_left _ (.tail _ (.tail _ (.tail _ (.tail _ (.tail _ (.head _)))))))
        refine memc hq ?_ fun q hq => ?_
        · exact N8 _ (List.mem_append_left _ (.tail _ (.tail _ (.tail _ (.tail _ (.tail _ (.tail _ (.head _))))))))
        cases hq
      · exact N8 _ (List.mem_append_right _ hq)
  have hr2 : ∀ p ∈ rst, p.1 ≠ Z + 1 + 1 := fun p hp => by
    rw [hrst] at hp
    rcases List.mem_append.mp hp with hp | hp
    · refine memc hp ?_ fun p hp => ?_
      · exact Ne.symm (htdn (_, c2) (List.mem_append_left _ (.tail _ (.tail _ (.tail _ (.tail _ (.head _)))))))
      refine memc hp ?_ fun p hp => ?_
      · exact Ne.symm dn.2.1
      refine memc hp ?_ fun p hp => ?_
      · exact Ne.symm dw.2.1
      refine memc hp ?_ fun p hp => ?_
      · refine neN ?_; dsimp only; exact ar191
      refine memc hp ?_ fun p hp => ?_
      · refine neN ?_; dsimp only; exact ar192
      refine memc hp ?_ fun p hp => ?_
      · refine neN ?_; dsimp only; exact ar148
      refine memc hp ?_ fun p hp => ?_
      · refine neN ?_; dsimp only; exact ar193 l106
      cases hp
    · exact fun e => hown (_, c2) (.tail _ (.tail _ (.tail _ (.tail _ (.head _))))) (e ▸ hL8.mem p hp)
  have hm1 : (td, listOf vd.toArray nd) ∈ rst := by rw [hrst]; exact .head _
  have hm2 : (aw, listOf vw.toArray n2) ∈ rst := by rw [hrst]; exact .tail _ (.tail _ (.head _))
  clear htN N8 N7 F7 hn8 k8 dn dw htdn hL
  walk_at "mine go"
  rename Fr _ _ _ _ => F11
  rename News _ _ _ _ => N11
  rename Obj => c2'
  rename c2'.data = _ => hd2'
  have hok : ∀ d ∈ (words.map mkS).map Dat.str, kqdOk 8 d = true := fun d hd => by
    obtain ⟨x, hx, rfl⟩ := List.mem_map.mp hd
    obtain ⟨l, hl, rfl⟩ := List.mem_map.mp hx
    exact strOk_mk (hasc l hl)
  refine ne_same N11 (.tail _ hm1) rfl rfl (dat_strs (news := []) hvd) (fun _ q => nomatch q) (.tail _ hm2) rfl rfl (dat_strs (news := []) hvw) (fun _ q => nomatch q) hok (by ke_room) ?_
  have hL8' := hL8
  refine byG fun G9 k9 => ?_; rcases R with ⟨cell, sg, std, st, cr, fn, lxd, lx, pb⟩; all_goals (refine k9 ?_; clear k9 G9)
  refine byG fun G9 k9 => ?_; rcases hL8 with ⟨vs, us, m1, m2, t1, t2, t3, t4, t5, t6, u1, u2, u3, u4, u5, u6, u7, tq, pm9, ctv, pb0, oc, co, fs, hord, hv, hu, hod, hof, hco, hnl⟩; all_goals (refine k9 ?_; clear k9 G9)
  have N12 : News g Z _ ((lx, instObj 100 lxd) :: (lxd, lexDict ww t1 t2 t3 t4 t5 t6 line8 (.ref st) pb) :: (Z + 1 + 1, c2') :: rst) := fun q hq => N11 q (by
    refine memc hq ?_ fun q hq => ?_
    · refine .tail _ ?_
      rw [hrst, hnl]
      exact List.mem_append_right _ (.tail _ (.head _))
    · refine memc hq ?_ fun q hq => ?_
      · refine .tail _ ?_
        rw [hrst, hnl]
        exact List.mem_append_right _ (.tail _ (.tail _ (.head _)))
      · exact hq)
  have hmc : (cr, oc) ∈ rst := by rw [hrst, hnl]; exact List.mem_append_right _ (.tail _ (.tail _ (.tail _ (.tail _ (.head _)))))
  have hcode : oc.data = .fields fs ∧ fs[1]? = some (.str (Str.ofString "_law_lexer" ++ ".<locals>." ++ Str.ofString "<lambda>") tq) := ⟨hod, hof⟩
  clear N11 hL8' hv hu hod hof hco hord
  have hcnt : Txt.count (mkS text) (Str.ofString "\n") = nlc text := (count_pos text [10] (by decide)).trans (pos_nlc text 0)
  have hln : line8 = 1 + nlc text := by
    have : nlc [] = 0 := rfl
    exact ar194 hln8 this
  have hsize : (mkS text).length ≤ 1000 := Nat.le_of_lt hlx
  subst hln
  walk_at "mine go"
  rw [hcnt]
  walk1
  walk1
  walk1
  all_goals try (exfalso; omega)
  have N13 : News g Z _ ((Z + 1 + 1, c2') :: rst) := fun q hq => N12 q (.tail _ (.tail _ hq))
  clear N12
  walk_at "mine go"
  rename Fr _ _ _ _ => F14
  have hvdl := hvd.length
  rw [List.length_map] at hvdl
  have N15 : News g Z _ ((Z + 1 + 1, c2') :: (Z + 1, c1') :: (td, listOf vd.toArray nd) :: (an, listOf vn.toArray n1) :: rst) := fun q hq => by
    refine memc hq ?_ fun q hq => ?_
    · exact N13 _ (.head _)
    · refine memc hq ?_ fun q hq => ?_
      · exact N13 _ (.tail _ (by rw [hrst]; exact List.mem_append_left _ (.tail _ (.tail _ (.tail _ (.tail _ (.tail _ (.head _))))))))
      · refine memc hq ?_ fun q hq => ?_
        · exact N13 _ (.tail _ hm1)
        · refine memc hq ?_ fun q hq => ?_
          · exact N13 _ (.tail _ (by rw [hrst]; exact List.mem_append_left _ (.tail _ (.head _))))
          · exact N13 _ (.tail _ hq)
  clear N13
  refine LCt.Assign_ListComp_T (F₀ := F14) (by rfl) (by with_unfolding_all rfl) (by rfl) (by decide) (by rfl) (by decide) (by rfl) (by rfl) (by rfl) ?_
  walk_at "mine go"
  rename Fr _ _ _ _ => F16
  rename News _ _ _ _ => N16
  rename IsRange _ _ _ _ _ _ _ _ => hr
  rw [List.size_toArray] at hr
  obtain ⟨NM, hNM⟩ : ∃ NM, NM = names5.take (4 + wns.length % 2) := ⟨_, rfl⟩
  rw [← hNM] at hvn hdg
  refine LCt.CompSrcT.range (n := words.length) rfl F16 N16 hr (small_one (by decide) (by decide) (by exact ar77) (by exact ar195 hwl hvdl)) (by rw [rangeSize_nat]; exact ar196 hvdl) (by rw [sizeLine_eq]; exact (Nat.le_of_lt (Nat.lt_trans hwl (by decide : 1000 < 16777216)))) fun g' => ?_
  refine compT_own (fun i ys nw => nw = ((Z + 1 + 1, c2') :: (Z + 1, c1') :: (td, listOf vd.toArray nd) :: (an, listOf vn.toArray n1) :: rst) ∧ IntsAre ys (intsOf ((List.range i).filter fun p => NM.contains (words.getD p [])))) ?_ ?_ _ 0 [] _ (Nat.zero_add _) ⟨rfl, .nil⟩
  · rintro i ys nw hin ⟨rfl, hys⟩ v I oI C oC D m₂ h3 tk3 E' ⟨t3, rfl⟩ hC hx F3 N3 off ne
    rw [Int.zero_add] at hx
    obtain ⟨ti, hti⟩ := strs_get (i := i) (n := mkS words[i]) hvd (by simp [hin])
    have hwd : words.getD i [] = words[i] := by rw [List.getD_eq_getElem?_getD, List.getElem?_eq_getElem hin]; rfl
    walk_at "mine go"
    refine item_nat (isList_news N3 (.tail _ (.tail _ (.tail _ (.tail _ (.tail _ (.head _))))))) (by exact (Nat.lt_trans (Nat.lt_trans hin hwl) (by decide : 1000 < 1000000))) hti ?_
    walk_at "mine go"
    refine in_list_strs (isList_news N3 (.tail _ (.tail _ (.tail _ (.tail _ (.tail _ (.tail _ (.head _)))))))) hvn ?_
    rw [any_mkS]
    cases hcb : NM.contains words[i] with
    | true =>
      walk_at "mine go"
      exact LCg.CompEnd.intro F3 N3 _ (fun p hp => hp) off trivial ⟨rfl, by rw [balls_step, hwd, hcb, if_pos rfl]; unfold intsOf; rw [List.map_append]; exact ints_append hys (.cons _ _ .nil)⟩
    | false =>
      walk_at "mine go"
      exact LCg.CompEnd.intro F3 N3 _ (fun p hp => hp) off trivial ⟨rfl, by rw [balls_step, hwd, hcb, if_neg (by decide), List.append_nil]; exact hys⟩
  · rintro ys nw ⟨rfl, hys⟩
    unfold LCg.FinA
    intro D h5 tk5 F5 N5 o1
    have hyb : IntsAre ys (intsOf (ballsOf words NM)) := hys
    clear hr F16 N16 hys
    rename Fr _ _ _ _ => F5
    have C5 : Core g h5 Z c3 c4 [(D, LCg.lst ys), (Z + 1, c1'), (an, listOf vn.toArray n1), (106, tabObj (lexTab cr)), (cr, oc)] := by
      have m3 : (Z + 1 + 1 + 1, c3) ∈ (D, LCg.lst ys) :: (Z + 1 + 1, c2') :: (Z + 1, c1') :: (td, listOf vd.toArray nd) :: (an, listOf vn.toArray n1) :: rst := by
        rw [hrst]; exact .tail _ (.tail _ (.tail _ (.tail _ (.tail _ (List.mem_append_left _ (.tail _ (.tail _ (.tail _ (.tail _ (.head _))))))))))
      have m4 : (Z + 1 + 1 + 1 + 1, c4) ∈ (D, LCg.lst ys) :: (Z + 1 + 1, c2') :: (Z + 1, c1') :: (td, listOf vd.toArray nd) :: (an, listOf vn.toArray n1) :: rst := by
        rw [hrst]; exact .tail _ (.tail _ (.tail _ (.tail _ (.tail _ (List.mem_append_left _ (.tail _ (.tail _ (.tail _ (.head _)))))))))
      have m6 : (106, tabObj (lexTab cr)) ∈ (D, LCg.lst ys) :: (Z + 1 + 1, c2') :: (Z + 1, c1') :: (td, listOf vd.toArray nd) :: (an, listOf vn.toArray n1) :: rst := by
        rw [hrst]; exact .tail _ (.tail _ (.tail _ (.tail _ (.tail _ (List.mem_append_left _ (.tail _ (.tail _ (.tail _ (.tail _ (.tail _ (.tail _ (.head _))))))))))))
      have m7 : (cr, oc) ∈ (D, LCg.lst ys) :: (Z + 1 + 1, c2') :: (Z + 1, c1') :: (td, listOf vd.toArray nd) :: (an, listOf vn.toArray n1) :: rst := .tail _ (.tail _ (.tail _ (.tail _ (.tail _ hmc))))
      have m1 : (D, LCg.lst ys) ∈ (D, LCg.lst ys) :: (Z + 1 + 1, c2') :: (Z + 1, c1') :: (td, listOf vd.toArray nd) :: (an, listOf vn.toArray n1) :: rst := .head _
      have m5 : (an, listOf vn.toArray n1) ∈ (D, LCg.lst ys) :: (Z + 1 + 1, c2') :: (Z + 1, c1') :: (td, listOf vd.toArray nd) :: (an, listOf vn.toArray n1) :: rst := .tail _ (.tail _ (.tail _ (.tail _ (.head _))))
      refine ⟨fun q hq => N5 q ?_, fun p hp => ?_⟩
      · refine memc hq ?_ fun q hq => ?_
        · exact m3
        refine memc hq ?_ fun q hq => ?_
        · exact m4
        refine memc hq ?_ fun q hq => ?_
        · exact m1
        refine memc hq ?_ fun q hq => ?_
        · exact .tail _ (.tail _ (.head _))
        refine memc hq ?_ fun q hq => ?_
        · exact m5
        refine memc hq ?_ fun q hq => ?_
        · exact m6
        refine memc hq ?_ fun q hq => ?_
        · exact m7
        cases hq
      · refine memc hp ?_ fun p hp => ?_
        · exact ⟨ne_cell N5 m1 m3 hd3 (fun _ q => nomatch q), ne_cell N5 m1 m4 hd4 (fun _ q => nomatch q)⟩
        refine memc hp ?_ fun p hp => ?_
        · exact ⟨by refine neN ?_; dsimp only; exact ar197, by refine neN ?_; dsimp only; exact ar198⟩
        refine memc hp ?_ fun p hp => ?_
        · exact ⟨ne_cell N5 m5 m3 hd3 (fun _ q => nomatch q), ne_cell N5 m5 m4 hd4 (fun _ q => nomatch q)⟩
        refine memc hp ?_ fun p hp => ?_
        · exact ⟨ne_cell N5 m6 m3 hd3 (fun _ q => nomatch q), ne_cell N5 m6 m4 hd4 (fun _ q => nomatch q)⟩
        refine memc hp ?_ fun p hp => ?_
        · exact ⟨ne_cell N5 m7 m3 hd3 (fun _ q => by rw [hcode.1] at q; cases q), ne_cell N5 m7 m4 hd4 (fun _ q => by rw [hcode.1] at q; cases q)⟩
        cases hp
    clear N5 o1 hown hnl hrst hm1 hm2 hr2 hok hmc htd htd0 hln8 hcnt hTup han haw ha0 hw0 hT0 hvd hvw hd1 hd2 hm z106
    rename News _ _ _ _ => N4
    rename Fr _ _ _ _ => F4
    have hLB : lawB NM (xs.map gapOf) = true := by
      rw [hNM]
      exact law_holds hxl
    have hwd : words = wordsG NM (xs.map gapOf) [] := by
      have := draw_words NM xs [] []
      rw [hdg] at this
      exact this
    unfold lawB at hLB
    rw [← hwd] at hLB
    simp only [Bool.and_eq_true, beq_iff_eq] at hLB
    obtain ⟨⟨⟨hs0, hs1⟩, hbk0⟩, hbk1⟩ := hLB
    generalize hB0 : ballsOf words NM = B0 at *
    have P0 := stepP hs0
    have P1 := stepP hs1
    clear hs0 hs1 hch hwl hasc hsize hB0
    have hNl : NM.length ≤ 5 := by
      rw [hNM, List.length_take]
      have : names5.length = 5 := rfl
      exact ar199
    have C6 := C5.n
    try dsimp only
    walk_at "mine go"
    have hBl := P0.g1.len
    refine struck_spec F4.keep Xg Tg (by decide) (isList_news C5.mem (.head _)) hyb P0.g1.ne (fun b hb => Nat.lt_trans (P0.g1.lt b hb) (by decide)) (by exact (Nat.lt_of_le_of_lt (Nat.le_trans (Nat.le_of_eq hBl) hNl) (by decide : 5 < 10))) fun h6 tk6 ka kv kn k6 hk0 hk hkv => ?_
    have C7 := Core.add F4 C5 k6 hk0 hk
    have F7 := fr_stays F4 k6
    have N7 := C7.n
    clear C6 C5 F4 k6 hk0 hk
    walk_at "mine go"
    rename Fr _ _ _ _ => F8
    rename News _ _ _ _ => N8
    rename _ ∧ _ ∧ _ => l8
    rename_i pa _ _ _ _
    refine byG fun G9 k9 => ?_; rcases l8 with ⟨q1, q2, q3, q4, q5, q6, q7, q8⟩; all_goals (refine k9 ?_; clear k9 G9)
    refine wpAny_For ?_
    walk_at "mine go"
    rename Fr _ _ _ _ => F10
    rename News _ _ _ _ => N10
    rename IsRange _ _ _ _ _ _ _ _ => hr
    refine for_range2 (n := 2) (TurnJ Z ka an cr pa kv vn kn n1 c1' B0) rfl F10 (news := (Z + 1 + 1 + 1, c3) :: (Z + 1 + 1 + 1 + 1, c4) :: (pa, listOf (List.toArray (([] : List (Addr × Obj)).map fun c : Addr × Obj => Value.ref c.1)) 0) :: (D, LCg.lst ys) :: (ka, listOf kv.toArray kn) :: (Z + 1, c1') :: (an, listOf vn.toArray n1) :: (106, tabObj (lexTab cr)) :: (cr, oc) :: []) (fun q hq => N10 q ?_) hr (by decide) (by decide)
      ⟨c3, c4, oc, _, _, fs, tq, D, ys, _, [], 0, rfl, hd3, hd4, hcode.1, hcode.2, ?_, ?_, hyb, .nil, rfl, rfl, rfl⟩ stores_local (fun _ _ q => q) ?_ ?_
    · refine memc hq ?_ fun q hq => ?_
      · exact at1
      refine memc hq ?_ fun q hq => ?_
      · exact at2
      refine memc hq ?_ fun q hq => ?_
      · exact at0
      refine memc hq ?_ fun q hq => ?_
      · exact at4
      refine memc hq ?_ fun q hq => ?_
      · exact at3
      refine memc hq ?_ fun q hq => ?_
      · exact at5
      refine memc hq ?_ fun q hq => ?_
      · exact at6
      refine memc hq ?_ fun q hq => ?_
      · exact at7
      refine memc hq ?_ fun q hq => ?_
      · exact at8
      cases hq
    · intro p hp
      refine memc hp ?_ fun p hp => ?_
      · exact ⟨Ne.symm (Nat.ne_of_lt q1), Ne.symm (Nat.ne_of_lt q2)⟩
      · refine C7.d p ?_
        refine memc hp ?_ fun p hp => ?_
        · exact at1
        refine memc hp ?_ fun p hp => ?_
        · exact at0
        refine memc hp ?_ fun p hp => ?_
        · exact at2
        refine memc hp ?_ fun p hp => ?_
        · exact at3
        refine memc hp ?_ fun p hp => ?_
        · exact at4
        refine memc hp ?_ fun p hp => ?_
        · exact at5
        cases hp
    · intro p hp
      refine memc hp ?_ fun p hp => ?_
      · exact Nat.ne_of_lt q4
      refine memc hp ?_ fun p hp => ?_
      · exact Nat.ne_of_lt q3
      refine memc hp ?_ fun p hp => ?_
      · exact Nat.ne_of_lt q5
      refine memc hp ?_ fun p hp => ?_
      · exact Nat.ne_of_lt q6
      refine memc hp ?_ fun p hp => ?_
      · exact Nat.ne_of_lt q7
      refine memc hp ?_ fun p hp => ?_
      · exact Nat.ne_of_lt q8
      cases hp
    · clear hr F10 N10 C7 hyb hcode hd3 hd4 q1 q2 q3 q4 q5 q6 q7 q8
      rintro i tp m₁ news₁ ot h10 tk10 gs10 hin ⟨c3, c4, oc, v3, v4, fs, tq, bl, bv, bn, old, pn, rfl, hd3, hd4, ho1, ho2, hdz, hdp, hbv, hold, mb, mp, mk⟩ hgs F10 N10 hot
      have hco : Hid (oc.data = .fields fs ∧ fs[1]? = some (.str (Str.ofString "_law_lexer" ++ ".<locals>." ++ Str.ofString "<lambda>") tq)) := ⟨⟨ho1, ho2⟩⟩
      clear ho1 ho2
      have e0 : (0 : Int) + (i : Int) * 1 = (i : Int) := by exact ar80
      rw [e0] at F10
      have PS : StepP NM (struckP B0) i (bAt B0 i) := by
        have h01 : i = 0 ∨ i = 1 := by exact ar172 hin
        rcases h01 with h | h
        · rw [h]; exact P0
        · rw [h]; exact P1
      generalize hbi : bAt B0 i = b at *
      obtain ⟨l0, hl0⟩ : ∃ l, l = old ++ ot := ⟨_, rfl⟩
      have C10 : Core g h10 Z c3 c4 ((pa, listOf (List.toArray (old.map fun c : Addr × Obj => Value.ref c.1)) pn) :: (bl, listOf (List.toArray bv) bn) :: (ka, listOf kv.toArray kn) :: (Z + 1, c1') :: (an, listOf vn.toArray n1) :: (106, tabObj (lexTab cr)) :: (cr, oc) :: l0) := by
        rw [hl0]
        refine ⟨N10, fun p hp => ?_⟩
        rw [show (pa, listOf (List.toArray (old.map fun c : Addr × Obj => Value.ref c.1)) pn) :: (bl, listOf (List.toArray bv) bn) :: (ka, listOf kv.toArray kn) :: (Z + 1, c1') :: (an, listOf vn.toArray n1) :: (106, tabObj (lexTab cr)) :: (cr, oc) :: (old ++ ot) = ((pa, listOf (List.toArray (old.map fun c : Addr × Obj => Value.ref c.1)) pn) :: (bl, listOf (List.toArray bv) bn) :: (ka, listOf kv.toArray kn) :: (Z + 1, c1') :: (an, listOf vn.toArray n1) :: (106, tabObj (lexTab cr)) :: (cr, oc) :: old) ++ ot from rfl] at hp
        rcases List.mem_append.mp hp with hp | hp
        · exact hdz p hp
        · exact ⟨hot _ (.head _) p hp, hot _ (.tail _ (.head _)) p hp⟩
      have hpa : ∀ p ∈ (bl, listOf (List.toArray bv) bn) :: (ka, listOf kv.toArray kn) :: (Z + 1, c1') :: (an, listOf vn.toArray n1) :: (106, tabObj (lexTab cr)) :: (cr, oc) :: l0, p.1 ≠ pa := fun p hp => by
        rw [hl0, show (bl, listOf (List.toArray bv) bn) :: (ka, listOf kv.toArray kn) :: (Z + 1, c1') :: (an, listOf vn.toArray n1) :: (106, tabObj (lexTab cr)) :: (cr, oc) :: (old ++ ot) = ((bl, listOf (List.toArray bv) bn) :: (ka, listOf kv.toArray kn) :: (Z + 1, c1') :: (an, listOf vn.toArray n1) :: (106, tabObj (lexTab cr)) :: (cr, oc) :: old) ++ ot from rfl] at hp
        rcases List.mem_append.mp hp with hp | hp
        · exact hdp p hp
        · exact hot _ (.tail _ (.tail _ (.head _))) p hp
      clear N10 hdz hdp P0 P1 hbk0 hbk1
      have hgl := rowLen_lt PS.g1 hNl
      have hbl' := PS.g1.len
      have hrl := rowOf_len NM b
      have N11 : News g Z h10 [(Z + 1, c1')] := fun q hq => by rw [List.mem_singleton.mp hq]; exact C10.mem _ (.tail _ (.tail _ (.tail _ (.head _))))
      walk_at "mine go"
      refine row_spec F10.keep Xg Tg (by decide) (isList_news C10.mem (.tail _ (.head _))) hbv (isList_news C10.mem (.tail _ (.tail _ (.tail _ (.tail _ (.head _)))))) hvn PS.g1.ne (fun x hx => Nat.lt_trans (PS.g1.lt x hx) (by decide)) (by exact (Nat.lt_of_le_of_lt (Nat.le_trans (Nat.le_of_eq hbl') hNl) (by decide : 5 < 10))) PS.g1.row hbl'.symm fun h11 tk11 gs11 ra rv rn k11 hb11 hr0 hr hrv => ?_
      have hrv2 : StrsAre rv ((rowOf NM b).map mkS) := hrv
      have C12 := Core.add F10 C10 k11 hr0 hr
      have F12 := fr_stays F10 k11
      have N12 := C12.n
      clear N11 C10 F10 k11 hr0 hr hrv
      walk_at "mine go"
      rename Fr _ _ _ _ => F13
      rename News _ _ _ _ => N13
      have C13 : Core g _ Z c3 c4 _ := ⟨N13, C12.d⟩
      clear C12
      walk_at "mine go"
      refine nest_spec F13.keep Xg Tg (by decide) (isList_news C13.mem (.tail _ (.tail _ (.head _)))) hbv (isList_news C13.mem (.head _)) hrv2 (fun x hx => by rw [hrl]; exact PS.g1.row x hx) (by exact (Nat.lt_of_le_of_lt (Nat.le_trans (Nat.le_of_eq hbl') hNl) (by decide : 5 < 10))) (by exact (Nat.lt_trans (Nat.lt_of_le_of_lt (Nat.le_of_eq hrl) hgl) (by decide : 70 < 100))) PS.r1 PS.r2 fun h14 tk14 gs14 na nv nn k14 hb14 hn0 hn hnv => ?_
      have C14 := Core.add F13 C13 k14 hn0 hn
      have F14 := fr_stays F13 k14
      clear C13 N13 F13 k14 hn0 hn
      obtain ⟨rst, hrst⟩ : ∃ r, r = ((Z + 1 + 1 + 1 + 1, c4) :: (na, listOf nv.toArray nn) :: (ra, listOf rv.toArray rn) :: (pa, listOf (List.toArray (old.map fun c : Addr × Obj => Value.ref c.1)) pn) :: (bl, listOf (List.toArray bv) bn) :: (ka, listOf kv.toArray kn) :: (Z + 1, c1') :: (an, listOf vn.toArray n1) :: (106, tabObj (lexTab cr)) :: (cr, oc) :: l0) := ⟨_, rfl⟩
      have N15 : News g Z h14 ((Z + 1 + 1 + 1, c3) :: rst) := by rw [hrst]; exact C14.n
      have hr3 : ∀ p ∈ rst, p.1 ≠ Z + 1 + 1 + 1 := fun p hp => by
        rw [hrst] at hp
        refine memc hp ?_ fun p hp => ?_
        · refine neN ?_; dsimp only; exact ar173
        · exact (C14.d p hp).1
      have C14d := C14.d
      clear C14
      walk_at "mine go"
      rename Fr _ _ _ _ => F16
      rename News _ _ _ _ => N16
      rename Obj => c3n
      rename c3n.data = _ => hd3n
      have C17 : Core g _ Z c3n c4 _ := ⟨by rw [hrst] at N16; exact N16, C14d⟩
      clear N16 hrst hr3 C14d
      have g100 : ∀ {l : List Nat}, GoodP NM.length l → ∀ x ∈ l, x < 100 := fun G x hx => Nat.lt_trans (G.lt x hx) (by decide)
      have hfl := PS.g2.len
      refine near_spec F16.keep Xg Tg (by decide) (isList_news C17.mem (.tail _ (.tail _ (.tail _ (.head _))))) hbv PS.g1.ne (g100 PS.g1) (by exact (Nat.lt_of_le_of_lt (Nat.le_trans (Nat.le_of_eq hbl') hNl) (by decide : 5 < 7))) (by exact (Nat.lt_trans hin (by decide : 2 < 10))) PS.n1 fun h18 tk18 gs18 ff fv fn2 k18 hb18 hf0 hf hfv => ?_
      have hff9 : Hid _ := ⟨(news_fresh F16 C17.n (news_stays C17.n k18) hf0 hf).2⟩
      have C18 := Core.add F16 C17 k18 hf0 hf
      have F18 := fr_stays F16 k18
      have N18 := C18.n
      clear C17 F16 k18 hf0 hf
      walk_at "mine go"
      rename Fr _ _ _ _ => F19
      rename News _ _ _ _ => N19
      have C19 : Core g _ Z c3n c4 _ := ⟨N19, C18.d⟩
      clear C18 N19
      refine struck_spec F19.keep Xg Tg (by decide) (isList_news C19.mem (.head _)) hfv PS.g2.ne (g100 PS.g2) (by exact (Nat.lt_of_le_of_lt (Nat.le_trans (Nat.le_of_eq hfl) hNl) (by decide : 5 < 10))) fun h20 tk20 sa sv sn k20 hs0 hs hsv => ?_
      have C20 := Core.add F19 C19 k20 hs0 hs
      have F20 := fr_stays F19 k20
      have N20 := C20.n
      clear C19 F19 k20 hs0 hs
      walk_at "mine go"
      rw [PS.st] at hsv
      refine neq_same (isList_news C20.mem (.head _)) (isList_news C20.mem (.tail _ (.tail _ (.tail _ (.tail _ (.tail _ (.tail _ (.head _)))))))) hsv hkv (by ke_room) ?_
      walk_at "mine go"
      have hnvl := hnv.length
      have hnl2 : (intsOf (nestP b (rowOf NM b))).length = (nxt b).length := by unfold intsOf; rw [List.length_map]; exact PS.ne.length_eq
      refine sorted_own (ms := intsOf (nxt b)) F20 N20 (isList_news C20.mem (.tail _ (.tail _ (.head _)))) hnv (by exact ar174 hNl hfl hnvl hnl2) (List.Perm.map _ PS.ne) PS.g2.srt fun D21 h21 v21 e21 F21 N21 l21 hi21 => ?_
      walk_at "mine go"
      refine neq_same (isList_news N21 (.head _)) (isList_news N21 (.tail _ (.tail _ (.tail _ (.tail _ (.head _)))))) hi21 hfv (by ke_room) ?_
      have C21 : Core g h21 Z c3n c4 _ := ⟨fun q hq => N21 q (.tail _ hq), C20.d⟩
      clear N21 C20 N20 F20 l21 hi21
      have N22 := C21.n
      walk_at "mine go"
      have e1 : ((i : Int) + 1) = ((i + 1 : Nat) : Int) := rfl
      refine byQ fun Q9 k9 => ?_
      rw [e1]
      refine near_spec (t := i + 1) F21.keep Xg Tg (by decide) (isList_news C21.mem (.tail _ (.tail _ (.tail _ (.tail _ (.tail _ (.head _))))))) hbv PS.g1.ne (g100 PS.g1) (by exact (Nat.lt_of_le_of_lt (Nat.le_trans (Nat.le_of_eq hbl') hNl) (by decide : 5 < 7))) (by exact (Nat.lt_of_le_of_lt (Nat.add_le_add (Nat.le_of_lt_succ hin) (Nat.le_refl 1)) (by decide))) PS.n2 fun h23 tk23 gs23 f2 f2v f2n k23 hb23 hf0 hf hf2v => ?_
      refine k9 _ _ ?_
      clear k9 Q9
      have C23 := Core.add F21 C21 k23 hf0 hf
      have F23 := fr_stays F21 k23
      have N23 := C23.n
      clear C21 N22 F21 k23 hf0 hf
      walk_at "mine go"
      refine neq_same (isList_news C23.mem (.head _)) (isList_news C23.mem (.tail _ (.tail _ (.head _)))) hf2v hfv (by ke_room) ?_
      walk_at "mine go"
      have hcl0 : ∀ p ∈ l0, p.1 ≠ cr := fun p hp => by
        have hp' := hp
        rw [hl0] at hp
        rcases List.mem_append.mp hp with hp | hp
        · obtain ⟨vs9, n9, e9⟩ := rows_data hold p hp
          intro q
          have z1 := (C23.mem p (.tail _ (.tail _ (.tail _ (.tail _ (.tail _ (.tail _ (.tail _ (.tail _ (.tail _ (.tail _ (.tail _ (.tail _ (hp')))))))))))))).1
          have z2 := (C23.mem (cr, oc) (by k_mem)).1
          dsimp only at z2
          rw [q, z2] at z1
          have z3 := Option.some.inj z1
          have z4 := hco.out.1
          rw [z3, e9] at z4
          cases z4
        · exact hot (cr, oc) (by k_mem) p hp
      have hrow100 : (rowOf NM b).length < 100 := by exact (Nat.lt_trans (Nat.lt_of_le_of_lt (Nat.le_of_eq hrl) hgl) (by decide : 70 < 100))
      have z106 := C23.mem (106, tabObj (lexTab cr)) (by k_mem)
      have zcr := C23.mem (cr, oc) (by k_mem)
      refine line_spec2 F23.keep Xg TT (by decide) CC.out z106.1 z106.2.2 ⟨oc, fs, tq, zcr.1, hco.out.1, hco.out.2⟩ zcr.2.2 (isList_news C23.mem (.tail _ (.tail _ (.tail _ (.tail _ (.tail _ (.tail _ (.head _)))))))) hbv (isList_news C23.mem (.tail _ (.tail _ (.tail _ (.tail _ (.head _)))))) hrv2 (by exact (Nat.lt_of_le_of_lt (Nat.le_trans (Nat.le_of_eq hbl') hNl) (by decide : 5 < 10))) hrow100 PS.li fun h25 tk25 gs25 la lv ln tups k25 hc25 hb25 ha0 ha ht hD => ?_
      refine byG fun G9 k9 => ?_; rcases hc25 with ⟨oc2, fs2, tq2, hoc2, ho3, ho4⟩; all_goals (refine k9 ?_; clear k9 G9)
      have hco2 : Hid (oc2.data = .fields fs2 ∧ fs2[1]? = some (.str (Str.ofString "_law_lexer" ++ ".<locals>." ++ Str.ofString "<lambda>") tq2)) := ⟨⟨ho3, ho4⟩⟩
      clear ho3 ho4
      have hne : ∀ p ∈ [(f2, listOf f2v.toArray f2n), (sa, listOf sv.toArray sn), (ff, listOf fv.toArray fn2), (na, listOf nv.toArray nn), (ra, listOf rv.toArray rn), (pa, listOf (List.toArray (old.map fun c : Addr × Obj => Value.ref c.1)) pn), (bl, listOf (List.toArray bv) bn), (ka, listOf kv.toArray kn), (Z + 1, c1'), (an, listOf vn.toArray n1), (106, tabObj (lexTab cr))], p.1 ≠ cr := fun p hp q => by
        have z1 := (C23.mem p (List.mem_append_left ((cr, oc) :: l0) hp)).1
        have z2 := zcr.1
        dsimp only at z2
        rw [q, z2] at z1
        have z3 := Option.some.inj z1
        have z4 := hco.out.1
        rw [z3] at z4
        simp only [List.mem_cons, List.not_mem_nil, or_false] at hp
        rcases hp with rfl | rfl | rfl | rfl | rfl | rfl | rfl | rfl | rfl | rfl | rfl
        · cases z4
        · cases z4
        · cases z4
        · cases z4
        · cases z4
        · cases z4
        · cases z4
        · cases z4
        · rw [hd1'] at z4; cases z4
        · cases z4
        · have z5 := hco.out.2
          injection z4 with z6
          rw [← z6] at z5
          simp [lexTab, rawInt] at z5
      obtain ⟨F25, C25⟩ := Core.but (pre := [(f2, listOf f2v.toArray f2n), (sa, listOf sv.toArray sn), (ff, listOf fv.toArray fn2), (na, listOf nv.toArray nn), (ra, listOf rv.toArray rn), (pa, listOf (List.toArray (old.map fun c : Addr × Obj => Value.ref c.1)) pn), (bl, listOf (List.toArray bv) bn), (ka, listOf kv.toArray kn), (Z + 1, c1'), (an, listOf vn.toArray n1), (106, tabObj (lexTab cr))]) F23 C23 k25 hoc2 hne hcl0 ha0 ha ht
      clear zcr z106 hne C23 F23 hcl0 k25 hco hoc2 ha0 ha
      have N26 : News g Z h25 [(Z + 1, c1'), (an, listOf vn.toArray n1), (ff, listOf fv.toArray fn2)] := fun q hq => C25.mem q (by
        refine memc hq ?_ fun q hq => ?_
        · exact .tail _ (List.mem_append_right _ (by k_mem))
        refine memc hq ?_ fun q hq => ?_
        · exact .tail _ (List.mem_append_right _ (by k_mem))
        refine memc hq ?_ fun q hq => ?_
        · exact .tail _ (List.mem_append_right _ (by k_mem))
        cases hq)
      walk_at "mine go"
      rename_i h26 z TI TO i1 i2 hZD hZ F26 hk26 kz kTO k1 k2 ka9 kz2 kTO2 k12 k22 hle2 N26z
      have hvnl := hvn.length
      rw [List.length_map] at hvnl
      refine list_zip (xs := vn) (ys := fv) (dx := (NM.map mkS).map Dat.str) (dy := (intsOf (nxt b)).map Dat.int) rfl hZD hZ (dat_strs hvn) (dat_ints hfv) (by exact (Nat.lt_of_le_of_lt (Nat.le_trans (Nat.le_of_eq hvnl) hNl) (by decide : 5 < 1000))) fun h27 za zv zn ztups k27 hz0 hz hzt hzD => ?_
      rw [zip_pairD] at hzD
      have none25 : ∀ a : Addr, h26.get? a = none → h25.get? a = none := fun a e => by
        cases e2 : h25.get? a with
        | none => rfl
        | some o => have := hk26 a o e2; rw [e] at this; cases this
      have k27' : h25.StaysIn h27 := fun b o e => by
        have hlt := Heap.lt_size e
        dsimp only at kz kTO k1 k2
        refine k27 b o ?_ (hk26 b o e)
        simp only [List.mem_cons, List.not_mem_nil, or_false, not_or]
        exact ⟨Nat.ne_of_lt (Nat.lt_of_lt_of_le hlt kz), Nat.ne_of_lt (Nat.lt_of_lt_of_le hlt kTO), Nat.ne_of_lt (Nat.lt_of_lt_of_le hlt k1), Nat.ne_of_lt (Nat.lt_of_lt_of_le hlt k2)⟩
      rename Fr g Z h25 _ => F25
      have C27 := Core.adds (tups := (za, listOf zv.toArray zn) :: ztups) F25 C25 k27' (fun q hq => by
        refine memc hq ?_ fun q hq => ?_
        · exact ⟨hz, none25 _ hz0⟩
        · exact ⟨(hzt q hq).1, none25 _ (hzt q hq).2⟩)
      have F27 := fr_stays F25 k27'
      clear k27 k27' none25 hz0 hz hzt kz kTO k1 k2 ka9 kz2 kTO2 k12 k22 hle2 N26z hk26 F26 hZ hZD F25 C25 ht
      rename News _ _ h25 _ => N25
      clear N25
      have m1 : (za, listOf zv.toArray zn) ∈ (za, listOf zv.toArray zn) :: ztups ++ ((la, listOf lv.toArray ln) :: (tups ++ ([(f2, listOf f2v.toArray f2n), (sa, listOf sv.toArray sn), (ff, listOf fv.toArray fn2), (na, listOf nv.toArray nn), (ra, listOf rv.toArray rn), (pa, listOf (List.toArray (old.map fun c : Addr × Obj => Value.ref c.1)) pn), (bl, listOf bv.toArray bn), (ka, listOf kv.toArray kn), (Z + 1, c1'), (an, listOf vn.toArray n1), (106, tabObj (lexTab cr))] ++ (cr, oc2) :: l0))) := .head _
      obtain ⟨l1, hl1⟩ : ∃ l, l = ((za, listOf zv.toArray zn) :: ztups ++ ((la, listOf lv.toArray ln) :: (tups ++ ([(f2, listOf f2v.toArray f2n), (sa, listOf sv.toArray sn), (ff, listOf fv.toArray fn2), (na, listOf nv.toArray nn), (ra, listOf rv.toArray rn), (pa, listOf (List.toArray (old.map fun c : Addr × Obj => Value.ref c.1)) pn), (bl, listOf bv.toArray bn), (ka, listOf kv.toArray kn), (Z + 1, c1'), (an, listOf vn.toArray n1), (106, tabObj (lexTab cr))] ++ (cr, oc2) :: l0)))) := ⟨_, rfl⟩
      clear m1
      rw [← hl1] at C27
      have sz1 : ∀ q ∈ ztups, q ∈ l1 := fun q hq => by rw [hl1]; exact List.mem_append_left _ (.tail _ hq)
      have sz2 : ∀ q ∈ tups, q ∈ l1 := fun q hq => by rw [hl1]; exact List.mem_append_right _ (.tail _ (List.mem_append_left _ hq))
      have mla : (la, listOf lv.toArray ln) ∈ l1 := by rw [hl1]; exact List.mem_append_right _ (.head _)
      have sz3 : ∀ q ∈ [(f2, listOf f2v.toArray f2n), (sa, listOf sv.toArray sn), (ff, listOf fv.toArray fn2), (na, listOf nv.toArray nn), (ra, listOf rv.toArray rn), (pa, listOf (List.toArray (old.map fun c : Addr × Obj => Value.ref c.1)) pn), (bl, listOf bv.toArray bn), (ka, listOf kv.toArray kn), (Z + 1, c1'), (an, listOf vn.toArray n1), (106, tabObj (lexTab cr))] ++ (cr, oc2) :: l0, q ∈ l1 := fun q hq => by rw [hl1]; exact List.mem_append_right _ (.tail _ (List.mem_append_right _ hq))
      have mza : (za, listOf zv.toArray zn) ∈ l1 := by rw [hl1]; exact .head _
      have mra : (ra, listOf rv.toArray rn) ∈ l1 := sz3 _ (by k_mem)
      clear hl1
      obtain ⟨al, hal⟩ : ∃ l, l = (Z + 1 + 1 + 1, c3n) :: (Z + 1 + 1 + 1 + 1, c4) :: l1 := ⟨_, rfl⟩
      have N28 : News g Z h27 ((za, listOf zv.toArray zn) :: (ra, listOf rv.toArray rn) :: al) := fun q hq => by
        refine memc hq ?_ fun q hq => ?_
        · exact C27.mem _ mza
        · refine memc hq ?_ fun q hq => ?_
          · exact C27.mem _ mra
          · rw [hal] at hq; exact C27.n _ hq
      have hrvl := hrv2.length
      rw [List.length_map] at hrvl
      have hzvl : zv.length ≤ 5 := by have := hzD.length; rw [List.length_map, List.length_zip] at this; exact (Nat.le_trans (Nat.le_trans (Nat.le_of_eq this) (Nat.le_trans (Nat.min_le_left _ _) hNl)) (by decide))
      have C27d := C27.d
      clear C27
      walk_at "mine go"
      rename Fr _ _ _ _ => F29
      rename News _ _ _ _ => N29
      rename_i T h28 l28 nl h29 l29
      refine kmk_add_lit (zs := zv ++ [Value.ref T]) F29 N29 (isList_news N29 (.tail _ (.tail _ (.head _)))) (isList_news N29 (.head _)) rfl (fun D30 h30 F30 N30 l30 => ?_) (by rw [sizeLine_eq]; simp only [List.length_cons, List.length_nil]; exact (Nat.le_trans (Nat.add_le_add hzvl (Nat.add_le_add (Nat.le_refl 0) (Nat.le_refl 1))) (by decide)))
      have hDz : DatAll ((T, { cls := Value.type "tuple", data := Data.seq #[Value.str (Str.ofString "z") tk25, Value.int (rv.toArray.size : Int) (tk25 + 1 + 1)] }) :: ztups) (zv ++ [Value.ref T]) (List.map pairD (NM.zip (nxt b)) ++ [pairD ([122], (rowOf NM b).length)]) := by
        have e2 : (rv.toArray.size : Int) = (((rowOf NM b).length : Nat) : Int) := by rw [List.size_toArray, hrvl]
        rw [e2]
        exact (hzD.mono fun p hp => .tail _ hp).append (.one (.tuple (vs := [Value.str (mkS [122]) tk25, Value.int (((rowOf NM b).length : Nat) : Int) (tk25 + 1 + 1)]) (.head _) (.cons (.str _ _) (.cons (.int _ _) .nil))))
      have hok : ∀ d ∈ List.map pairD (NM.zip (nxt b)) ++ [pairD ([122], (rowOf NM b).length)], kqdOk 8 d = true := fun d hd => by
        have p1 : ∀ (x : List Nat) (n : Nat), (∀ c ∈ x, c < 128) → kqdOk 8 (pairD (x, n)) = true := fun x n hx => by
          unfold pairD
          simp only [kqdOk, List.all_cons, List.all_nil, Bool.and_true]
          exact strOk_mk hx
        rcases List.mem_append.mp hd with hd | hd
        · obtain ⟨⟨x, n⟩, hx, rfl⟩ := List.mem_map.mp hd
          refine p1 x n fun c hc => ?_
          have h1 := (List.of_mem_zip hx).1
          rw [hNM] at h1
          exact (by decide : ∀ n ∈ names5, ∀ c ∈ n, c < 128) x (List.mem_of_mem_take h1) c hc
        · rw [List.mem_singleton.mp hd]
          exact p1 _ _ (by decide)
      have mal : ∀ q ∈ l1, q ∈ al := fun q hq => by rw [hal]; exact .tail _ (.tail _ hq)
      refine ne_same N30 (.tail _ (.tail _ (.tail _ (.tail _ (.tail _ (mal _ mla)))))) rfl rfl hD (fun p hp => .tail _ (.tail _ (.tail _ (.tail _ (.tail _ (mal _ (sz2 p hp))))))) (.head _) rfl rfl hDz (fun p hp => ?_) hok (by ke_room) ?_
      · refine memc hp ?_ fun p hp => ?_
        · exact .tail _ (.tail _ (.head _))
        · exact .tail _ (.tail _ (.tail _ (.tail _ (.tail _ (mal _ (sz1 p hp))))))
      have C30 : Core g h30 Z c3n c4 l1 := ⟨fun q hq => N30 q (.tail _ (.tail _ (.tail _ (.tail _ (.tail _ (by rw [hal]; exact hq)))))), C27d⟩
      clear hDz hok N30 l30 N29 F29 l28 l29 hD hzD hzvl sz1 sz2 mla mza mal hal C27d
      walk_at "mine go"
      rename Fr _ _ _ _ => F30
      obtain ⟨al, hal⟩ : ∃ l, l = (Z + 1 + 1 + 1 + 1, c4) :: l1 := ⟨_, rfl⟩
      have N31 : News g Z h30 ((Z + 1 + 1 + 1, c3n) :: (na, listOf nv.toArray nn) :: (ff, listOf fv.toArray fn2) :: al) := fun q hq => by
        refine memc hq ?_ fun q hq => ?_
        · exact C30.n _ (.head _)
        · refine memc hq ?_ fun q hq => ?_
          · exact C30.mem _ (sz3 _ (by k_mem))
          · refine memc hq ?_ fun q hq => ?_
            · exact C30.mem _ (sz3 _ (by k_mem))
            · rw [hal] at hq; exact C30.n _ (.tail _ hq)
      have C30d := C30.d
      clear C30
      have hfvl := hfv.length
      have hil : (intsOf (nxt b)).length = (nxt b).length := List.length_map ..
      refine LCg.ListComp_U (F₀ := F30) (by with_unfolding_all rfl) (by decide) (by rfl) (by decide) (by rfl) ?_
      walk_at "mine go"
      refine LCg.CompSrc.ledger rfl F30 N31 (.tail _ (.tail _ (.head _))) (by simp only [List.size_toArray]; rw [sizeLine_eq]; exact ar175 hNl hfl hfvl hil) fun g' => ?_
      refine comp_own (fun j ys nw => nw = (Z + 1 + 1 + 1, c3n) :: (na, listOf nv.toArray nn) :: (ff, listOf fv.toArray fn2) :: al ∧ IntsAre ys (((nxt b).take j).map fun x => ((nestP b (rowOf NM b)).idxOf x : Int))) ?_ ?_ _ 0 [] _ (Nat.zero_add _) ⟨rfl, .nil⟩
      · rintro j ys nw hjn ⟨rfl, hys⟩ v I oI C oC D m₂ h3 tk3 hP hC hx F3 N3 off ne
        have hjc : j < (nxt b).length := by simp only [List.size_toArray] at hjn; exact (Nat.lt_of_lt_of_le (Nat.lt_of_lt_of_le hjn (Nat.le_of_eq hfvl)) (Nat.le_of_eq hil))
        obtain ⟨tv, htv⟩ := ints_get (i := j) (n := ((nxt b)[j] : Int)) hfv (by unfold intsOf; rw [List.getElem?_map, List.getElem?_eq_getElem hjc]; rfl)
        have hv : v = .int ((nxt b)[j] : Int) tv := by
          rw [List.getElem?_toArray, htv] at hP
          exact (Option.some.inj hP).symm
        subst hv
        walk_at "mine go"
        have hmj : (nxt b)[j] ∈ nestP b (rowOf NM b) := PS.ne.mem_iff.mpr (List.getElem_mem hjc)
        refine index_list_ints (isList_news N3 (.tail _ (.tail _ (.tail _ (.tail _ (.head _)))))) hnv (lay_small (fun x hx => g100 PS.g2 x (PS.ne.mem_iff.mp hx)) (by rw [PS.ne.length_eq]; exact (Nat.lt_of_le_of_lt (Nat.le_trans (Nat.le_of_eq hfl) hNl) (by decide : 5 < 10)))) (List.mem_map_of_mem hmj) ?_
        rw [idx_ints]
        walk_at "mine go"
        refine LCg.CompEnd.intro F3 N3 _ (fun p hp => hp) off (.inr ⟨_, .tail _ (.tail _ (.head _)), rfl, _, rfl⟩) ⟨rfl, ?_⟩
        rw [List.take_succ_eq_append_getElem hjc, List.map_append]
        exact ints_append hys (.cons _ _ .nil)
      · rintro ys nw ⟨rfl, hys⟩
        unfold LCg.FinE
        intro D h5 tk5 F5 N5 o1
        have e9 : fv.toArray.size = (nxt b).length := by rw [List.size_toArray, hfvl, hil]
        rw [e9, List.take_length] at hys
        have C31 : Core g h5 Z c3n c4 l1 := ⟨fun q hq => N5 q (by
          refine memc hq ?_ fun q hq => ?_
          · exact .tail _ (.head _)
          · rw [hal]
            exact .tail _ (.tail _ (.tail _ (.tail _ hq)))), C30d⟩
        try dsimp only
        walk_at "mine go"
        refine table_spec F5.keep Xg Tg (by decide) ⟨_, (N5 (D, _) (.head _)).1, rfl, _, rfl⟩ hys (by rw [List.length_map]; exact (Nat.lt_of_le_of_lt (Nat.le_trans (Nat.le_of_eq hfl) hNl) (by decide : 5 < 10))) fun h32 tk32 gs32 ta tv tn k32 hb32 ht0 ht htv => ?_
        rw [PS.ta] at htv
        have N32 : News g Z h32 [(ta, listOf tv.toArray tn)] := fun q hq => (news_fresh F5 N5 (news_stays N5 k32) ht0 ht).1 q (by rw [List.mem_singleton.mp hq]; exact .head _)
        have C32 := C31.stays k32
        have F32 := fr_stays F5 k32
        clear C31 N5 F5 o1 k32 ht0 ht hys
        walk_at "mine go"
        refine neq_same (isList_news N32 (.head _)) (isList_news C32.mem (sz3 _ (by k_mem))) htv hkv (by ke_room) ?_
        clear N32
        have N33 : News g Z h32 [(Z + 1, c1')] := fun q hq => C32.mem q (by rw [List.mem_singleton.mp hq]; exact sz3 _ (by k_mem))
        walk_at "mine go"
        refine row_spec F32.keep Xg Tg (by decide) (isList_news C32.mem (sz3 _ (by k_mem))) hfv (isList_news C32.mem (sz3 _ (by k_mem))) hvn PS.g2.ne (g100 PS.g2) (by exact (Nat.lt_of_le_of_lt (Nat.le_trans (Nat.le_of_eq hfl) hNl) (by decide : 5 < 10))) PS.g2.row PS.g2.len.symm fun h33 tk33 gs33 fa2 fv2 fn3 k33 hb33 hr0 hr hrv => ?_
        have hrv3 : StrsAre fv2 ((rowOf NM (nxt b)).map mkS) := hrv
        have C33 := Core.add F32 C32 k33 hr0 hr
        have F33 := fr_stays F32 k33
        clear C32 N33 F32 k33 hr0 hr hrv
        obtain ⟨l2, hl2⟩ : ∃ l, l = (fa2, listOf fv2.toArray fn3) :: l1 := ⟨_, rfl⟩
        rw [← hl2] at C33
        have mfa : (fa2, listOf fv2.toArray fn3) ∈ l2 := by rw [hl2]; exact .head _
        have sz4 : ∀ q ∈ l1, q ∈ l2 := fun q hq => by rw [hl2]; exact .tail _ hq
        clear hl2
        obtain ⟨rst, hrst⟩ : ∃ l, l = (Z + 1 + 1 + 1, c3n) :: l2 := ⟨_, rfl⟩
        have N34 : News g Z h33 ((Z + 1 + 1 + 1 + 1, c4) :: rst) := fun q hq => by
          refine memc hq ?_ fun q hq => ?_
          · exact C33.n _ (.tail _ (.head _))
          · rw [hrst] at hq
            refine memc hq ?_ fun q hq => ?_
            · exact C33.n _ (.head _)
            · exact C33.n _ (.tail _ (.tail _ hq))
        have hr3 : ∀ p ∈ rst, p.1 ≠ Z + 1 + 1 + 1 + 1 := fun p hp => by
          rw [hrst] at hp
          refine memc hp ?_ fun p hp => ?_
          · refine neN ?_; dsimp only; exact ar176
          · exact (C33.d p hp).2
        have C33d := C33.d
        clear C33
        walk_at "mine go"
        rename Fr _ _ _ _ => F35
        rename News _ _ _ _ => N35
        rename Heap => h35
        rename Obj => c4n
        rename c4n.data = _ => hd4n
        have C35 : Core g h35 Z c3n c4n l2 := ⟨fun q hq => by
          refine memc hq ?_ fun q hq => ?_
          · exact N35 _ (.tail _ (by rw [hrst]; exact .head _))
          · refine memc hq ?_ fun q hq => ?_
            · exact N35 _ (.head _)
            · exact N35 _ (.tail _ (by rw [hrst]; exact .tail _ hq)), C33d⟩
        clear N35 hr3 hrst rst C33d hal al
        obtain ⟨al, hal⟩ : ∃ l, l = (Z + 1 + 1 + 1, c3n) :: l2 := ⟨_, rfl⟩
        have N36 : News g Z h35 ((Z + 1 + 1 + 1 + 1, c4n) :: (bl, listOf bv.toArray bn) :: (ff, listOf fv.toArray fn2) :: (fa2, listOf fv2.toArray fn3) :: al) := fun q hq => by
          refine memc hq ?_ fun q hq => ?_
          · exact C35.n _ (.tail _ (.head _))
          · refine memc hq ?_ fun q hq => ?_
            · exact C35.mem _ (sz4 _ (sz3 _ (by k_mem)))
            · refine memc hq ?_ fun q hq => ?_
              · exact C35.mem _ (sz4 _ (sz3 _ (by k_mem)))
              · refine memc hq ?_ fun q hq => ?_
                · exact C35.mem _ mfa
                · rw [hal] at hq
                  refine memc hq ?_ fun q hq => ?_
                  · exact C35.n _ (.head _)
                  · exact C35.n _ (.tail _ (.tail _ hq))
        have C35d := C35.d
        clear C35
        refine LCg.Assign_ListComp_U (F₀ := F35) (by rfl) (by with_unfolding_all rfl) (by rfl) (by decide) (by rfl) (by decide) (by rfl) (by rfl) (by rfl) ?_
        walk_at "mine go"
        have hbvl := hbv.length
        have hfvl2 := hfv.length
        have hbl2 : (intsOf b).length = b.length := List.length_map ..
        refine kmk_add_ints F35 N36 (isList_news N36 (.tail _ (.head _))) (isList_news N36 (.tail _ (.tail _ (.head _)))) hbv hfv (fun D37 us37 h37 F37 N37 l37 hI37 => ?_) (by rw [sizeLine_eq]; exact ar177 hNl hbl' hfl hil hbl2)
        clear F35 N36
        walk_at "mine go"
        have e37 : intsOf b ++ intsOf (nxt b) = intsOf (b ++ nxt b) := by unfold intsOf; rw [List.map_append]
        rw [e37] at hI37
        have hl37 := hI37.length
        have hl38 : (intsOf (b ++ nxt b)).length = b.length + (nxt b).length := by unfold intsOf; rw [List.length_map, List.length_append]
        refine sorted_own (ms := intsOf (sortN (b ++ nxt b))) F37 N37 (isList_news N37 (.head _)) hI37 (by exact ar178 hNl hbl' hfl hl37 hl38) (List.Perm.map _ PS.s1.symm) PS.s2 fun D38 h38 v38 e38 F38 N38 l38 hi38 => ?_
        clear F37 N37 l37 l38
        have hl39 := hi38.length
        have hl40 : (intsOf (sortN (b ++ nxt b))).length = (sortN (b ++ nxt b)).length := List.length_map ..
        have hl41 := PS.s1.length_eq
        rw [List.length_append] at hl41
        refine LCg.CompSrc.ledger rfl F38 N38 (.head _) (by simp only [List.size_toArray]; rw [sizeLine_eq]; exact ar179 hNl hbl' hfl hl39 hl40 hl41) fun g' => ?_
        refine comp_own (fun j ys nw => nw = (D38, listOf v38.toArray e38) :: (D37, listOf us37.toArray 0) :: (Z + 1 + 1 + 1 + 1, c4n) :: (bl, listOf bv.toArray bn) :: (ff, listOf fv.toArray fn2) :: (fa2, listOf fv2.toArray fn3) :: al ∧ StrsAre ys (((sortN (b ++ nxt b)).take j).map fun p => mkS ((rowOf NM (nxt b)).getD p []))) ?_ ?_ _ 0 [] _ (Nat.zero_add _) ⟨rfl, .nil⟩
        · rintro j ys nw hjn ⟨rfl, hys⟩ v I oI C oC D m₂ h3 tk3 hP hC hx F3 N3 off ne
          have hjc : j < (sortN (b ++ nxt b)).length := by simp only [List.size_toArray] at hjn; exact (Nat.lt_of_lt_of_le (Nat.lt_of_lt_of_le hjn (Nat.le_of_eq hl39)) (Nat.le_of_eq hl40))
          obtain ⟨tv, htv⟩ := ints_get (i := j) (n := ((sortN (b ++ nxt b))[j] : Int)) hi38 (by unfold intsOf; rw [List.getElem?_map, List.getElem?_eq_getElem hjc]; rfl)
          have hv : v = .int ((sortN (b ++ nxt b))[j] : Int) tv := by
            rw [List.getElem?_toArray, htv] at hP
            exact (Option.some.inj hP).symm
          subst hv
          have hpl : (sortN (b ++ nxt b))[j] < (rowOf NM (nxt b)).length := by rw [rowOf_len]; exact PS.s3 _ (List.getElem_mem hjc)
          have hpl2 := rowOf_len NM (nxt b)
          have hpl3 := rowLen_lt PS.g2 hNl
          obtain ⟨sv, hsv⟩ := strs_get (i := (sortN (b ++ nxt b))[j]) (n := mkS ((rowOf NM (nxt b)).getD (sortN (b ++ nxt b))[j] [])) hrv3 (by rw [List.getElem?_map, List.getElem?_eq_getElem hpl, List.getD_eq_getElem?_getD, List.getElem?_eq_getElem hpl]; rfl)
          generalize hpj : (sortN (b ++ nxt b))[j] = pj at *
          walk_at "mine go"
          refine item_nat (isList_news N3 (.tail _ (.tail _ (.tail _ (.tail _ (.tail _ (.tail _ (.tail _ (.tail _ (.head _)))))))))) (by exact (Nat.lt_trans (Nat.lt_trans (Nat.lt_of_lt_of_le hpl (Nat.le_of_eq hpl2)) hpl3) (by decide : 70 < 1000000))) hsv ?_
          walk_at "mine go"
          refine LCg.CompEnd.intro F3 N3 _ (fun p hp => hp) off (.inr ⟨_, .head _, rfl, _, rfl⟩) ⟨rfl, ?_⟩
          rw [List.take_succ_eq_append_getElem hjc, List.map_append, hpj]
          exact strs_append hys (.cons _ _ .nil)
        · rintro ys nw ⟨rfl, hys⟩
          unfold LCg.FinA
          intro D h5 tk5 F5 N5 o1
          try dsimp only
          walk_at "mine go"
          have hblk : StrsAre ys ((blockOf NM b).map mkS) := by
            rw [List.size_toArray, hl39, hl40, List.take_length] at hys
            unfold blockOf
            rw [List.map_map]
            exact hys
          have hbkl : (blockOf NM b).length ≤ 10 := by unfold blockOf; rw [List.length_map]; exact ar180 hNl hbl' hfl hl41
          have C40 : Core g h5 Z c3n c4n l2 := ⟨fun q hq => N5 q (.tail _ (.tail _ (.tail _ (by
            refine memc hq ?_ fun q hq => ?_
            · exact .tail _ (.tail _ (.tail _ (.tail _ (by rw [hal]; exact .head _))))
            · refine memc hq ?_ fun q hq => ?_
              · exact .head _
              · exact .tail _ (.tail _ (.tail _ (.tail _ (by rw [hal]; exact .tail _ hq)))))))), C35d⟩
          have N40 : News g Z h5 [(D, LCg.lst ys)] := fun q hq => N5 q (by rw [List.mem_singleton.mp hq]; exact .head _)
          clear hys N5 o1
          refine join_own (vs := ys) (acc := blockOf NM b) (B := 1000) ⟨_, (N40 _ (.head _)).1, rfl, _, rfl⟩ hblk (fun l hl => Nat.le_of_lt (Nat.lt_of_le_of_lt (List.sublist_flatten_of_mem hl).length_le PS.b1)) (by exact (Nat.le_trans (Nat.add_le_add (Nat.mul_le_mul hbkl (Nat.le_refl 1000)) hbkl) (by decide))) fun t6 k6 => ?_
          walk_at "mine go"
          have ec1 : checkP (mkS (blockOf NM b).flatten).cps.toList = false := PS.c1
          refine check_eq ec1 F5.keep Xg Tg (by decide) (mkS_ascii PS.b2) PS.b1 fun h41 tk41 gs41 k41 hb41 => ?_
          have C41 := C40.stays k41
          have F41 := fr_stays F5 k41
          have hysl := hblk.length
          rw [List.length_map] at hysl
          obtain ⟨al2, hal2⟩ : ∃ l, l = (Z + 1 + 1 + 1, c3n) :: (Z + 1 + 1 + 1 + 1, c4n) :: l2 := ⟨_, rfl⟩
          have N41 : News g Z h41 ((D, LCg.lst ys) :: al2) := fun q hq => by
            refine memc hq ?_ fun q hq => ?_
            · exact news_stays N40 k41 _ (.head _)
            · rw [hal2] at hq; exact C41.n _ hq
          have C41d := C41.d
          clear C40 C41 F5 N40 k41
          walk_at "mine go"
          refine krv_lit (its := ys.toArray) (zs := ys.reverse) F41 N41 ⟨_, (N41 _ (.head _)).1, rfl, _, rfl⟩ (IsPart.int _ _) rfl (fun D42 h42 F42 N42 l42 => ?_) (by with_unfolding_all rfl) (fun _ => by with_unfolding_all rfl) (by rw [List.size_toArray, sizeLine_eq]; exact (Nat.le_of_lt (Nat.lt_of_le_of_lt (Nat.le_trans (Nat.le_of_eq hysl) hbkl) (by decide : 10 < 16777216))))
          clear F41 N41
          walk_at "mine go"
          refine join_own (vs := ys.reverse) (acc := (blockOf NM b).reverse) (B := 1000) (isList_news N42 (.head _)) (by have := strs_rev hblk; rw [← List.map_reverse] at this; exact this) (fun l hl => Nat.le_of_lt (Nat.lt_of_le_of_lt (List.sublist_flatten_of_mem (List.mem_reverse.mp hl)).length_le PS.b1)) (by rw [List.length_reverse]; exact (Nat.le_trans (Nat.add_le_add (Nat.mul_le_mul hbkl (Nat.le_refl 1000)) hbkl) (by decide))) fun t43 k43 => ?_
          walk_at "mine go"
          have ec2 : checkP (mkS (blockOf NM b).reverse.flatten).cps.toList = true := PS.c2
          refine check_eq ec2 F42.keep Xg Tg (by decide) (mkS_ascii fun c hc => PS.b2 c (rev_flat_mem hc)) (by show (blockOf NM b).reverse.flatten.length < 1000; rw [rev_flat_len]; exact PS.b1) fun h44 tk44 gs44 k44 hb44 => ?_
          have C44 : Core g h44 Z c3n c4n l2 := ⟨fun q hq => news_stays N42 k44 q (.tail _ (.tail _ (by rw [hal2]; exact hq))), C41d⟩
          have F44 := fr_stays F42 k44
          clear F42 N42 k44 l42 hal2 al2
          have N45 : News g Z h44 [(pa, listOf (List.toArray (old.map fun c : Addr × Obj => Value.ref c.1)) pn)] := fun q hq => by
            rw [List.mem_singleton.mp hq]; exact C44.mem _ (sz4 _ (sz3 _ (by k_mem)))
          walk_at "mine go"
          clear N45
          have mpa : (pa, listOf (List.toArray (old.map fun c : Addr × Obj => Value.ref c.1)) pn) ∈ l2 := sz4 _ (sz3 _ (by k_mem))
          have hsub : ∀ q ∈ (cr, oc2) :: l0, q ∈ l2 := fun q hq => sz4 _ (sz3 _ (List.mem_append_right _ hq))
          have hneff : pa ≠ ff := hff9.out (pa, listOf (List.toArray (old.map fun c : Addr × Obj => Value.ref c.1)) pn) (by k_mem)
          obtain ⟨rst, hrst⟩ : ∃ l, l = [(Z + 1 + 1 + 1, c3n), (Z + 1 + 1 + 1 + 1, c4n), (ff, listOf fv.toArray fn2), (ka, listOf kv.toArray kn), (Z + 1, c1'), (an, listOf vn.toArray n1), (106, tabObj (lexTab cr)), (cr, oc2), (bl, listOf bv.toArray bn)] ++ l0 := ⟨_, rfl⟩
          have N46 : News g Z h44 ((pa, listOf (List.toArray (old.map fun c : Addr × Obj => Value.ref c.1)) pn) :: rst) := fun q hq => by
            refine memc hq ?_ fun q hq => ?_
            · exact C44.mem _ mpa
            · rw [hrst] at hq
              rcases List.mem_append.mp hq with hq | hq
              · refine memc hq ?_ fun q hq => ?_
                · exact C44.n _ (.head _)
                refine memc hq ?_ fun q hq => ?_
                · exact C44.n _ (.tail _ (.head _))
                refine memc hq ?_ fun q hq => ?_
                · exact C44.mem _ (sz4 _ (sz3 _ (by k_mem)))
                refine memc hq ?_ fun q hq => ?_
                · exact C44.mem _ (sz4 _ (sz3 _ (by k_mem)))
                refine memc hq ?_ fun q hq => ?_
                · exact C44.mem _ (sz4 _ (sz3 _ (by k_mem)))
                refine memc hq ?_ fun q hq => ?_
                · exact C44.mem _ (sz4 _ (sz3 _ (by k_mem)))
                refine memc hq ?_ fun q hq => ?_
                · exact C44.mem _ (sz4 _ (sz3 _ (by k_mem)))
                refine memc hq ?_ fun q hq => ?_
                · exact C44.mem _ (hsub _ (.head _))
                refine memc hq ?_ fun q hq => ?_
                · exact C44.mem _ (sz4 _ (sz3 _ (by k_mem)))
                cases hq
              · exact C44.mem _ (hsub _ (.tail _ hq))
          have hr5 : ∀ p ∈ rst, p.1 ≠ pa := fun p hp => by
            rw [hrst] at hp
            rcases List.mem_append.mp hp with hp | hp
            · refine memc hp ?_ fun p hp => ?_
              · exact Ne.symm (C44.d _ mpa).1
              refine memc hp ?_ fun p hp => ?_
              · exact Ne.symm (C44.d _ mpa).2
              refine memc hp ?_ fun p hp => ?_
              · exact Ne.symm hneff
              refine memc hp ?_ fun p hp => ?_
              · exact hpa (ka, listOf kv.toArray kn) (.tail _ (.head _))
              refine memc hp ?_ fun p hp => ?_
              · exact hpa (Z + 1, c1') (.tail _ (.tail _ (.head _)))
              refine memc hp ?_ fun p hp => ?_
              · exact hpa (an, listOf vn.toArray n1) (.tail _ (.tail _ (.tail _ (.head _))))
              refine memc hp ?_ fun p hp => ?_
              · exact hpa (106, tabObj (lexTab cr)) (.tail _ (.tail _ (.tail _ (.tail _ (.head _)))))
              refine memc hp ?_ fun p hp => ?_
              · exact hpa (cr, oc) (.tail _ (.tail _ (.tail _ (.tail _ (.tail _ (.head _))))))
              refine memc hp ?_ fun p hp => ?_
              · exact hpa (bl, listOf bv.toArray bn) (.head _)
              cases hp
            · exact hpa p (.tail _ (.tail _ (.tail _ (.tail _ (.tail _ (.tail _ hp))))))
          have holdl := hold.length
          rw [List.length_map, List.length_range] at holdl
          have C44d := C44.d
          clear C44
          walk_at "mine go"
          try clear qk ek
          rename Fr _ _ _ _ => F47
          rename News _ _ _ _ => N47
          show Lp _
          have epa : (List.map (fun c : Addr × Obj => Value.ref c.1) old).toArray.push (Value.ref bl) = List.toArray ((old ++ [(bl, listOf bv.toArray bn)]).map fun c : Addr × Obj => Value.ref c.1) := by
            rw [List.push_toArray, List.map_append]
            rfl
          rw [epa] at N47
          have in0 : ∀ q ∈ l0, (q ∈ rst) := fun q hq => by rw [hrst]; exact List.mem_append_right _ hq
          have in9 : ∀ q ∈ [(Z + 1 + 1 + 1, c3n), (Z + 1 + 1 + 1 + 1, c4n), (ff, listOf fv.toArray fn2), (ka, listOf kv.toArray kn), (Z + 1, c1'), (an, listOf vn.toArray n1), (106, tabObj (lexTab cr)), (cr, oc2), (bl, listOf bv.toArray bn)], q ∈ rst := fun q hq => by rw [hrst]; exact List.mem_append_left _ hq
          have e1 : bAt B0 (i + 1) = nxt b := by
            show nxt (bAt B0 i) = nxt b
            rw [hbi]
          have onxt : ∀ q ∈ (ff, listOf fv.toArray fn2) :: (ka, listOf kv.toArray kn) :: (Z + 1, c1') :: (an, listOf vn.toArray n1) :: (106, tabObj (lexTab cr)) :: (cr, oc2) :: (old ++ [(bl, listOf bv.toArray bn)]), q ∈ rst := fun q hq => by
            refine memc hq ?_ fun q hq => ?_
            · exact in9 _ (by k_mem)
            · refine memc hq ?_ fun q hq => ?_
              · exact in9 _ (by k_mem)
              · refine memc hq ?_ fun q hq => ?_
                · exact in9 _ (by k_mem)
                · refine memc hq ?_ fun q hq => ?_
                  · exact in9 _ (by k_mem)
                  · refine memc hq ?_ fun q hq => ?_
                    · exact in9 _ (by k_mem)
                    · refine memc hq ?_ fun q hq => ?_
                      · exact in9 _ (by k_mem)
                      · rcases List.mem_append.mp hq with hq | hq
                        · exact in0 _ (by rw [hl0]; exact List.mem_append_left _ hq)
                        · rw [List.mem_singleton.mp hq]; exact in9 _ (by k_mem)
          refine ⟨_, _, _, _, (Z + 1 + 1 + 1, c3n) :: (Z + 1 + 1 + 1 + 1, c4n) :: (pa, listOf (List.toArray ((old ++ [(bl, listOf bv.toArray bn)]).map fun c : Addr × Obj => Value.ref c.1)) (pn + 1)) :: (ff, listOf fv.toArray fn2) :: (ka, listOf kv.toArray kn) :: (Z + 1, c1') :: (an, listOf vn.toArray n1) :: (106, tabObj (lexTab cr)) :: (cr, oc2) :: (old ++ [(bl, listOf bv.toArray bn)]), rfl, fun q => hb44 (hb41 (hb33 (hb32 (hb25 (hb23 (hb18 (hb14 (hb11 (hgs q))))))))), F47, fun q hq => ?_, fun q hq => ?_, c3n, c4n, oc2, _, _, fs2, tq2, ff, fv, fn2, old ++ [(bl, listOf bv.toArray bn)], pn + 1, rfl, hd3n, hd4n, hco2.out.1, hco2.out.2, fun p hp => ?_, fun p hp => ?_, ?_, ?_, rfl, mp, mk⟩
          · rcases List.mem_append.mp hq with hq | hq
            · refine memc hq ?_ fun q hq => ?_
              · exact N47 _ (.tail _ (in9 _ (by k_mem)))
              · refine memc hq ?_ fun q hq => ?_
                · exact N47 _ (.tail _ (in9 _ (by k_mem)))
                · refine memc hq ?_ fun q hq => ?_
                  · exact N47 _ (.head _)
                  · exact N47 _ (.tail _ (onxt q hq))
            · exact N47 _ (.tail _ (in0 _ (by rw [hl0]; exact List.mem_append_right _ hq)))
          · refine memc hq ?_ fun q hq => ?_
            · exact .inl (.head _)
            · refine memc hq ?_ fun q hq => ?_
              · exact .inl (.tail _ (.head _))
              · refine memc hq ?_ fun q hq => ?_
                · exact .inl (.tail _ (.tail _ (.head _)))
                · refine memc hq ?_ fun q hq => ?_
                  · exact .inr fun r hr => hff9.out r (List.mem_append_right [(Z + 1 + 1 + 1, _), (Z + 1 + 1 + 1 + 1, _), (na, _), (ra, _), (pa, _), (bl, _), (ka, _), (Z + 1, _), (an, _), (106, _), (cr, _)] (by rw [hl0]; exact List.mem_append_right _ hr))
                  · refine memc hq ?_ fun q hq => ?_
                    · exact .inl (.tail _ (.tail _ (.tail _ (.tail _ (.head _)))))
                    · refine memc hq ?_ fun q hq => ?_
                      · exact .inl (.tail _ (.tail _ (.tail _ (.tail _ (.tail _ (.head _))))))
                      · refine memc hq ?_ fun q hq => ?_
                        · exact .inl (.tail _ (.tail _ (.tail _ (.tail _ (.tail _ (.tail _ (.head _)))))))
                        · refine memc hq ?_ fun q hq => ?_
                          · exact .inl (.tail _ (.tail _ (.tail _ (.tail _ (.tail _ (.tail _ (.tail _ (.head _))))))))
                          · refine memc hq ?_ fun q hq => ?_
                            · exact .inl (.tail _ (.tail _ (.tail _ (.tail _ (.tail _ (.tail _ (.tail _ (.tail _ (.head _)))))))))
                            · rcases List.mem_append.mp hq with hq | hq
                              · exact .inl (.tail _ (.tail _ (.tail _ (.tail _ (.tail _ (.tail _ (.tail _ (.tail _ (.tail _ (List.mem_map_of_mem hq))))))))))
                              · rw [List.mem_singleton.mp hq]
                                exact .inl (.tail _ (.tail _ (.tail _ (.head _))))
          · refine memc hp ?_ fun p hp => ?_
            · exact C44d (pa, listOf (List.toArray (old.map fun c : Addr × Obj => Value.ref c.1)) pn) mpa
            · refine C44d p ?_
              refine memc hp ?_ fun p hp => ?_
              · exact sz4 _ (sz3 _ (by k_mem))
              · refine memc hp ?_ fun p hp => ?_
                · exact sz4 _ (sz3 _ (by k_mem))
                · refine memc hp ?_ fun p hp => ?_
                  · exact sz4 _ (sz3 _ (by k_mem))
                  · refine memc hp ?_ fun p hp => ?_
                    · exact sz4 _ (sz3 _ (by k_mem))
                    · refine memc hp ?_ fun p hp => ?_
                      · exact sz4 _ (sz3 _ (by k_mem))
                      · refine memc hp ?_ fun p hp => ?_
                        · exact hsub _ (.head _)
                        · rcases List.mem_append.mp hp with hp | hp
                          · exact hsub _ (.tail _ (by rw [hl0]; exact List.mem_append_left _ hp))
                          · rw [List.mem_singleton.mp hp]
                            exact sz4 _ (sz3 _ (by k_mem))
          · exact hr5 p (onxt p hp)
          · rw [e1]; exact hfv
          · rw [List.range_succ, List.map_append]
            exact rows_snoc hold (by show IntsAre bv (intsOf (bAt B0 i)); rw [hbi]; exact hbv)
    · clear hr F10 N10 C7 hyb hcode hd3 hd4 q1 q2 q3 q4 q5 q6 q7 q8
      rintro m₁ news₁ h10 tk10 gs10 ⟨c3, c4, oc, v3, v4, fs, tq, bl, bv, bn, old, pn, rfl, hd3, hd4, ho1, ho2, hdz, hdp, hbv, hold, mb, mp, mk⟩ hgs F10 N10
      have N11 : News g Z h10 ((bl, listOf (List.toArray bv) bn) :: (pa, listOf (List.toArray (old.map fun c : Addr × Obj => Value.ref c.1)) pn) :: (106, tabObj (lexTab cr)) :: old) := fun q hq => N10 q (by
        refine memc hq ?_ fun q hq => ?_
        · exact .tail _ (.tail _ (.tail _ (.head _)))
        · refine memc hq ?_ fun q hq => ?_
          · exact .tail _ (.tail _ (.head _))
          · refine memc hq ?_ fun q hq => ?_
            · exact .tail _ (.tail _ (.tail _ (.tail _ (.tail _ (.tail _ (.tail _ (.head _)))))))
            · exact .tail _ (.tail _ (.tail _ (.tail _ (.tail _ (.tail _ (.tail _ (.tail _ (.tail _ hq)))))))))
      clear N10 hdz hdp hd3 hd4 ho1 ho2 mk
      try dsimp only
      walk_at "mine go"
      refine wpAny_For ?_
      walk_at "mine go"
      rename Fr _ _ _ _ => F11
      rename News _ _ _ _ => N12
      rename IsRange _ _ _ _ _ _ _ _ => hr
      refine for_range2 (n := 2) (BackJ pa ((pa, listOf (List.toArray (old.map fun c : Addr × Obj => Value.ref c.1)) pn) :: (106, tabObj (lexTab cr)) :: old) B0) rfl F11 N12 hr (by decide) (by decide) ⟨bl, bv, bn, rfl, hbv, mb, mp⟩ stores_local (fun _ _ q => q) ?_ ?_
      · rintro i tp m₂ news₂ ot h20 tk20 gs20 hin ⟨bl, bv, bn, rfl, hbv, mb, mp⟩ hgs2 F20 N20 hot
        have e0 : (0 : Int) + (i : Int) * 1 = (i : Int) := by exact ar80
        rw [e0] at F20
        have h01 : i = 0 ∨ i = 1 := by exact ar172 hin
        have hP : GoodP NM.length (bAt B0 (2 - i)) ∧ nearP (bAt B0 (2 - i)) i true = some (intsOf (bAt B0 (1 - i))) := by
          rcases h01 with h | h
          · rw [h]; exact ⟨P1.g2, hbk0⟩
          · rw [h]; exact ⟨P1.g1, hbk1⟩
        generalize bAt B0 (2 - i) = b2 at hP hbv
        have hl2 := hP.1.len
        have N21 : News g Z h20 [(bl, listOf (List.toArray bv) bn)] := fun q hq => N20 q (List.mem_append_left _ (by rw [List.mem_singleton.mp hq]; exact .head _))
        clear hr F11 N12
        walk_at "mine go"
        refine near_spec (t := i) F20.keep Xg Tg (by decide) (isList_news N21 (.head _)) hbv hP.1.ne (fun x hx => Nat.lt_trans (hP.1.lt x hx) (by decide)) (by exact (Nat.lt_of_le_of_lt (Nat.le_trans (Nat.le_of_eq hl2) hNl) (by decide : 5 < 7))) (by exact (Nat.lt_trans hin (by decide : 2 < 10))) hP.2 fun h22 tk22 gs22 nb nv nn k22 hb22 hn0 hn hnv => ?_
        have hdn : Hid _ := ⟨news_fresh F20 N20 (news_stays N20 k22) hn0 hn⟩
        obtain ⟨pre, hpre⟩ : ∃ p, p = (nb, listOf (List.toArray nv) nn) :: ((bl, listOf (List.toArray bv) bn) :: (pa, listOf (List.toArray (old.map fun c : Addr × Obj => Value.ref c.1)) pn) :: (106, tabObj (lexTab cr)) :: old ++ ot) := ⟨_, rfl⟩
        have N22 : News g Z h22 ((nb, listOf (List.toArray nv) nn) :: (pa, listOf (List.toArray (old.map fun c : Addr × Obj => Value.ref c.1)) pn) :: pre) := fun q hq => by
          refine memc hq ?_ fun q hq => ?_
          · exact hdn.out.1 _ (.head _)
          · refine memc hq ?_ fun q hq => ?_
            · exact hdn.out.1 _ (.tail _ (.tail _ (.head _)))
            · rw [hpre] at hq; exact hdn.out.1 _ hq
        have F22 := fr_stays F20 k22
        clear N20 N21 F20 k22 hn0 hn
        walk_at "mine go"
        rename Fr _ _ _ _ => F23
        rename News _ _ _ _ => N23
        have e1 : (1 : Int) - (i : Int) = ((1 - i : Nat) : Int) := by exact ar188 hin
        have hol := hold.length
        rw [List.length_map, List.length_range] at hol
        have hj : 1 - i < old.length := by exact ar189 hol
        obtain ⟨ov, on, hoe, hov⟩ := hold.get (1 - i) hj (by rw [List.length_map, List.length_range]; exact (Nat.lt_of_le_of_lt (Nat.le_trans (Nat.sub_le _ _) (Nat.le_refl 1)) (by decide)))
        rw [List.getElem_map, List.getElem_range] at hov
        have hmo : (old[1 - i].1, listOf (List.toArray ov) on) ∈ pre := by
          rw [hpre, ← hoe]
          exact .tail _ (List.mem_append_left _ (.tail _ (.tail _ (.tail _ (List.getElem_mem hj)))))
        rw [e1]
        refine item_nat (vs := old.map fun c : Addr × Obj => Value.ref c.1) (k := 1 - i) (isList_news N23 (.tail _ (.head _))) (by exact (Nat.lt_of_le_of_lt (Nat.le_trans (Nat.sub_le _ _) (Nat.le_refl 1)) (by decide))) (by rw [List.getElem?_map, List.getElem?_eq_getElem hj]; rfl) ?_
        refine neq_same (isList_news N23 (.head _)) (isList_news N23 (.tail _ (.tail _ hmo))) hnv hov (by ke_room) ?_
        walk_at "mine go"
        show Lp _
        refine ⟨_, _, _, _, (nb, listOf (List.toArray nv) nn) :: (pa, listOf (List.toArray (old.map fun c : Addr × Obj => Value.ref c.1)) pn) :: (106, tabObj (lexTab cr)) :: old, rfl, fun q => hb22 (hgs2 q), F23, fun q hq => N23 q (.tail _ (.tail _ ?_)), fun q hq => ?_, nb, nv, nn, rfl, ?_, rfl, ?_⟩
        · rw [hpre]
          refine memc hq ?_ fun q hq => ?_
          · exact .head _
          · exact .tail _ (.tail _ hq)
        · refine memc hq ?_ fun q hq => ?_
          · exact .inr fun r hr => hdn.out.2 r (.tail _ (List.mem_append_right _ hr))
          · exact .inl (.tail _ (List.mem_map_of_mem hq))
        · have e2 : 2 - (i + 1) = 1 - i := by exact ar190
          rw [e2]
          exact hnv
        · exact mp
      · rintro m₂ news₂ h20 tk20 gs20 ⟨bl, bv, bn, rfl, hbv, mb, mp⟩ hgs2 F20 N20
        try dsimp only
        walk_at "mine go"
        · intro b o e
          rw [hgg] at e
          exact F20.keep b o e
        · exact hgs2 (hgs (hb2 (.of_eq hgens))))
end Mine
set_option maxHeartbeats 8000000 in
theorem PySem.Challenge.cw_sc0052_01_holds : PySem.Challenge.rw_sc0052_01.Holds := by
  exact Mine.law_true

import Derived.Lib.Bytealg
import Derived.Sort.Statements
namespace Go.Proofs.Ybulkdaoq
open Go.Sort

/-! ### The order of ids -/

theorem cmp_neg : ∀ (a b : List UInt8), Lib.compareBytes a b < 0 ↔ a < b
  | [], [] => by simp [Lib.compareBytes]
  | [], _ :: _ => by simp [Lib.compareBytes]
  | _ :: _, [] => by simp [Lib.compareBytes]
  | a :: xs, b :: ys => by
    unfold Lib.compareBytes
    rw [List.cons_lt_cons_iff]
    by_cases h1 : a < b
    · simp [h1]
    · by_cases h2 : b < a
      · have : a ≠ b := fun e => by subst e; exact h1 h2
        simp [h1, h2, this]
      · have e : a = b := by
          rw [UInt8.lt_iff_toNat_lt] at h1 h2
          exact UInt8.toNat_inj.1 (by omega)
        subst e
        simp [cmp_neg xs ys]

theorem cmp_pos : ∀ (a b : List UInt8), 0 < Lib.compareBytes a b ↔ b < a
  | [], [] => by simp [Lib.compareBytes]
  | [], _ :: _ => by simp [Lib.compareBytes]
  | _ :: _, [] => by simp [Lib.compareBytes]
  | a :: xs, b :: ys => by
    unfold Lib.compareBytes
    rw [List.cons_lt_cons_iff]
    by_cases h1 : a < b
    · have h2 : ¬ b < a := fun h => by rw [UInt8.lt_iff_toNat_lt] at *; omega
      have : b ≠ a := fun e => by subst e; exact h2 h1
      simp [h1, h2, this]
    · by_cases h2 : b < a
      · simp [h1, h2]
      · have e : a = b := by
          rw [UInt8.lt_iff_toNat_lt] at h1 h2
          exact UInt8.toNat_inj.1 (by omega)
        subst e
        simp [cmp_pos xs ys]

/-- p's id is not behind q's. -/
def ple (S : Nat → ByteArray) (p q : Nat) : Prop := ¬ (S q).data.toList < (S p).data.toList

theorem ple_trans {S : Nat → ByteArray} {p q r : Nat} (h1 : ple S p q) (h2 : ple S q r) : ple S p r := by
  unfold ple at *
  rw [List.not_lt] at *
  exact List.le_trans h1 h2
theorem ple_total (S : Nat → ByteArray) (p q : Nat) : ple S p q ∨ ple S q p := by
  unfold ple
  rw [List.not_lt, List.not_lt]
  exact List.le_total _ _
theorem ple_of_lt {S : Nat → ByteArray} {p q : Nat} (h : (S p).data.toList < (S q).data.toList) : ple S p q := by
  unfold ple
  rw [List.not_lt]
  exact List.le_of_lt h

end Go.Proofs.Ybulkdaoq

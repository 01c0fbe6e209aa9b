import Derived.Test.YbulkdaywRows
import Derived.WalkKit
import Derived.WalkLawsBesides
import Derived.WalkSpells
import Derived.Deep.LoopGhost
import Derived.Deep.Light
import Derived.BigQuiet
import Derived.Deep.QuietTactic
import Derived.Lib.Builder
namespace Go.Proofs.Ybulkdayw
open Go.RowKit

theorem grownN {w x : World} (h : Grown w x) (n : Nat) : Grown w (x.drewN n) := h

theorem info24 : (Yba.prog.info? 24).isSome = true := by kernel_rfl
theorem info5 : (Yba.prog.info? 5).isSome = true := by kernel_rfl
theorem neq22 (W : World) (a : Addr) : (binOp .neq 22 (.pointer (some a)) (.pointer (some a))).run Yba.prog W = .ok (.bool false) W := by
  obtain ⟨i, hi⟩ := Option.isSome_iff_exists.1 info24
  exact Lib.run_neq_ptr_same W a Yba.underlying22 hi
theorem neq38 (W : World) (a : Addr) : (binOp .neq 38 (.pointer (some a)) (.pointer (some a))).run Yba.prog W = .ok (.bool false) W := by
  obtain ⟨i, hi⟩ := Option.isSome_iff_exists.1 info5
  exact Lib.run_neq_ptr_same W a Yba.underlying38 hi

theorem sets_neg (a0 a1 a2 a3 a4 : Int) (a5 a6 : Bool) (a7 : Int) (w : World) (h : a0 ≤ 0) :
    Calls Yba.prog 3 #[.int .i64 a0, .int .i64 a1, .int .i64 a2, .int .i64 a3, .int .i64 a4, .bool a5, .bool a6, .int .i64 a7] w fun e w' => e = .returned (.bool true) ∧ Grown w w' := by
  go_enter Yba.func3, Yba.ntmps3
  go_wp2
  go_ret
  exact ⟨rfl, Grown.refl _⟩

set_option maxHeartbeats 2000000 in
set_option maxRecDepth 100000 in
theorem sets_pos (a0 a1 a2 a3 a4 : Int) (a5 a6 : Bool) (a7 : Int) (w : World) (h : ¬ a0 ≤ 0) :
    Calls Yba.prog 3 #[.int .i64 a0, .int .i64 a1, .int .i64 a2, .int .i64 a3, .int .i64 a4, .bool a5, .bool a6, .int .i64 a7] w fun e w' => e = .returned (.bool true) ∧ Grown w w' := by
  have p22 := neq22
  have p38 := neq38
  have q31 : ∀ (w : World) (a : Option Addr) (n c n' c' : Nat), (binOp .eql 31 (.slice a n c) (.slice none n' c')).run Yba.prog w = .ok (.bool a.isNone) w := fun w a n c n' c' => Lib.run_eql_slice_nil w _ _ a n c n' c' Yba.underlying31
  go_enter Yba.func3, Yba.ntmps3
  go_wp2
  go_end0
  go_wp2
  go_quiet (fail)
  go_wp2
  go_ret
  exact ⟨rfl, grownN (by repeat (first | exact Grown.refl _ | apply Grown.drew | apply Grown.alloc)) _⟩

end Go.Proofs.Ybulkdayw

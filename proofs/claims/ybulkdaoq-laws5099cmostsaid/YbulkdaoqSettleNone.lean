import Derived.Test.YbulkdaoqKeys
namespace Go.Proofs.Ybulkdaoq
open Go.RowKit Go.Sort Go.Shelf

set_option maxHeartbeats 1000000 in
set_option maxRecDepth 100000 in
theorem settle_none (n : Nat) (S : Nat → ByteArray) (L : Nat → Nat) (K : Nat → Int) (c sd eb sb kb sp kp : Nat) (x1 x2 us : Value) (w : World)
    (h : St w n n S L K c sd eb sb kb sp kp x1 x2 us) :
    Calls Yba.prog 12 #[.pointer (some ⟨c, 0, none⟩)] w fun e w' => e = .returned (.tuple #[]) ∧ St w' n n S L K c sd eb sb kb sp kp x1 x2 us ∧ Only [] w w' := by
  have l1 := h.lt
  have h0 := h.same ((Only.refl [] w).alloc (.cells #[.pointer (some ⟨c, 0, none⟩)] 45))
  have hbx : (w.alloc (.cells #[.pointer (some ⟨c, 0, none⟩)] 45)).cell? ⟨w.heap.size, 0, none⟩ = some (.pointer (some ⟨c, 0, none⟩)) := by simp
  have hclk := h0.clk
  have f3 := h0.f3
  have f6 := h0.f6
  have A0 : Aside (St (w.alloc (.cells #[.pointer (some ⟨c, 0, none⟩)] 45)) n n S L K c sd eb sb kb sp kp x1 x2 us ∧ Only [] w (w.alloc (.cells #[.pointer (some ⟨c, 0, none⟩)] 45))) := ⟨h0, (Only.refl [] w).alloc _⟩
  clear h h0
  go_enter Yba.func12, Yba.ntmps12
  go_wp2_with fail
  generalize w.alloc (.cells #[.pointer (some ⟨c, 0, none⟩)] 45) = w0 at *
  go_quiet (fail)
  go_wp2
  refine bodyPost_ret (results_none rfl _ _ _) rfl ?_
  exact ⟨rfl, A0.out.1.drewN _, A0.out.2.drewN _⟩
end Go.Proofs.Ybulkdaoq

import Derived.Test.YbulkdaoqAt
import Derived.Test.YbulkdaoqHeap
import Derived.Lib.SliceRun
namespace Go.Proofs.Ybulkdaoq
open Go.RowKit Go.Lib

theorem info34 : (Yba.prog.info? 34).map (fun i => (i.zero, i.size, i.bytes)) = some (some (.int .u64 0), 1, 8) := by kernel_rfl
theorem info22 : (Yba.prog.info? 22).map (fun i => (i.zero, i.size, i.bytes)) = some (some (.slice none 0 0), 1, 24) := by kernel_rfl
theorem info3 : (Yba.prog.info? 3).map (fun i => (i.zero, i.size, i.bytes)) = some (some (.int .i64 0), 1, 8) := by kernel_rfl

/-- slices.Clone at []uint64, a row of n > 0 cells. -/
theorem clone_calls (b n c : Nat) (f : Nat → Int) (w : World) (hn0 : 0 < n) (hn : n ≤ 1000) (hr : Rw w b n (fun i => .int .u64 (f i))) :
    Calls Yba.prog 16 #[.slice (some ⟨b, 0, none⟩) n c] w fun e w' => ∃ g cap, e = .returned (.slice (some ⟨g, 0, none⟩) n cap) ∧ w.heap.size ≤ g ∧ n ≤ cap ∧ Rw w' g n (fun i => .int .u64 (f i)) ∧ Below w.heap.size w w' := by
  have q22 : ∀ (w : World) (a : Option Addr) (n c n' c' : Nat), (binOp .eql 22 (.slice a n c) (.slice none n' c')).run Yba.prog w = .ok (.bool a.isNone) w := fun w a n c n' c' => Lib.run_eql_slice_nil w _ _ a n c n' c' Yba.underlying22
  obtain ⟨i0, hi, hz0, hz1, hz2⟩ := info_parts info34
  have A : Aside (Rw w b n (fun i => .int .u64 (f i))) := hr
  clear hr
  go_enter Yba.func16, Yba.ntmps16
  go_wp2_with (at_builtin; refine wpList_append_own _ rfl _ _ 22 rfl w.heap.size 34 i0 (.int .u64 0) 1 8 Yba.underlying22 hi hz0 hz1 hz2 rfl (by decide) _ _ _ rfl (World.ownsRow_made w #[] 0 (Nat.le_refl _) (Nat.zero_le _) (by simp)) ⟨b, 0, none⟩ n c ((List.range n).map fun i => Value.int .u64 (f i)) rfl ?qc1 ?qc2 ?qc3 ?qc4 ?qc5 ?qc6 ?_)
  case qc1 => simp
  case qc2 =>
    intro j u hj
    rw [Addr.add_lit]
    simp at hj
    obtain ⟨x, hx, rfl⟩ := hj
    obtain ⟨hj, hx⟩ := List.getElem?_eq_some_iff.1 hx
    simp at hj hx
    subst hx
    have := (A.out.alloc (.cells #[] 34)).cell hj
    simpa using this
  case qc3 => intro u hu; simp at hu; obtain ⟨a, _, rfl⟩ := hu; rfl
  case qc4 => unfold maxLen; omega
  case qc5 => omega
  case qc6 => simp
  intro v' w1 hown hgrow hnil
  go_wp2
  go_ret
  obtain ⟨g, cap, rfl, hg, hc, _, hrw⟩ := Rw.ofOwns (by simpa using hown) hn0
  refine ⟨g, cap, rfl, hg, hc, hrw.congr fun i hi => by simp [hi], ?_⟩
  exact ((Below.refl _ w).alloc (Nat.le_refl _) _).grown hgrow (by simp) (by intro k hk; simp [Value.ownBlock] at hk; omega)

end Go.Proofs.Ybulkdaoq

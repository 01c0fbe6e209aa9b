/-
  The proof of 'Rows.LawS5099CMostSaid': the frame is the guide's shell; the walk is YbulkdaoqCMost.lean's.
-/
import Derived.Test.YbulkdaoqRows
import Derived.Test.YbulkdaoqCMost
import Derived.WalkKit
import Derived.ProofKit
import Derived.OpenShut
import Derived.ShutString
import Derived.ChangeOld
import Derived.Below
import Derived.SliceStrings
namespace Go.Proofs.Ybulkdaoq.lawS5099CMost
open Go.ChangeShapes Go.WideShapes Go.ChangeAt Go.RowKit
set_option linter.unusedVariables false

theorem own : ownKnob Yba.prog.godebug = none := by kernel_rfl
theorem laidOut : laidOutB Yba.prog = true := by kernel_rfl

theorem isRowS {w : World} {a : Addr} {len cap : Nat} {S : Nat → ByteArray} (hl : len ≤ cap) (hm : cap ≤ maxLen) (h : ∀ i, i < len → w.cell? (a.add i) = some (.string (S i))) : IsRowF Value.string w (some a) len cap S := by
  refine ⟨hl, hm, fun h0 => ?_⟩
  obtain ⟨b, off, spot⟩ := a
  have hspot : spot = none := by simpa [Addr.add] using World.cell?_spot (h 0 (by omega))
  subst hspot
  have hc : ∀ j, j < len → w.cell? ⟨b, off + j, none⟩ = some (.string (S j)) := fun j hj => by rw [← Go.WideShapes.add_plain]; exact h j hj
  exact ⟨b, off, rfl, World.block_lt_of_cell? _ _ (hc 0 (by omega)), fun i hi => hc i (by omega)⟩

theorem walk (a0 : Option Addr) (len0 cap0 : Nat) (S : Nat → ByteArray) (a1 : Int) (w : World) (w0 : IsRowF Value.string w a0 len0 cap0 S) (w1 : (Lit.int .u16 a1).wf = true) :
    Calls Yba.prog 6 #[.slice a0 len0 cap0, .int .u16 a1] w fun e w' => e = .returned (.bool true) ∧ Below w.heap.size w w' := by
  have b1 := bounds_u16 w1
  obtain ⟨m1, rfl⟩ := Int.eq_ofNat_of_zero_le b1.1
  exact cmost_walk a0 len0 cap0 m1 S w w0 (by omega)

/-! ### THE ROW's STEP -/
set_option maxRecDepth 100000 in
theorem lifted (os : Os) (started : os.Started) (H : Type) (enc : TypeId × Value → H) :
    ReturnsInHanded {} Yba.checked os 6 .any (Rows.lawS5099CMostSpec.pre6 enc Yba.prog Yba.f6 Rows.lawS5099CMostRow.domain false) (Rows.lawS5099CMostSpec.post enc Yba.prog Yba.f6 false true false false) := by
  refine returnsInHanded_of_change (C := Yba.checked) own started (by kernel_rfl) Yba.func6
    (ChangeSpec.witness6 (enc := enc) (C := Yba.checked) false ⟨#[], #[.slice none 0 0, .int .u16 0], []⟩ 8 (by kernel_rfl) (by kernel_rfl) (by kernel_rfl) (by kernel_rfl)) ?_
  intro W base args ds gs before hval0 hW hcnd _
  have hval : ∀ (j : Nat) t v, Yba.f6.params[j]? = some t → args[j]? = some v → Value.okWide Yba.prog W .any base t v := hval0
  have hW' := hW
  obtain ⟨p, q, hA0, hV, rfl, hfz, hnd⟩ := hW
  have hA : DataW.TrodAll enc Yba.prog W 0 (fun _ => true) true Yba.f6.params.toList args.toList ds p := hA0
  rw [Yba.params6] at hA hval
  obtain ⟨v0, vs0, d0, ds0, p0, q0, hargs, rfl, rfl, h0, r0⟩ := trodAll_cons hA
  obtain ⟨v1, vs1, d1, ds1, p1, q1, rfl, rfl, rfl, h1, r1⟩ := trodAll_cons r0
  obtain ⟨rfl, rfl, rfl⟩ := trodAll_nil r1
  obtain rfl : args = #[v0, v1] := by cases args; simp_all
  obtain ⟨rfl, rfl⟩ := trodVars_none hV
  obtain ⟨a0, len0, cap0, rfl⟩ := okWide_slice Yba.underlying26 (hval 0 26 v0 rfl rfl)
  have k0 := h0
  have lt0 : ∀ x ∈ p0, x.block < W.heap.size := by obtain ⟨m, hm⟩ := k0; exact DataW.trod_lt m _ _ _ hm
  obtain ⟨S, w0⟩ : ∃ S, IsRowF Value.string W a0 len0 cap0 S := by
    obtain ⟨fuel, hf⟩ := h0
    rcases open_strings Yba.underlying26 Yba.underlying9 (by kernel_rfl) hf with ⟨hcs, _⟩ | ⟨x, l, c, ss, hcs, _, hl, hm, hz, _, hcell, _⟩
    · simp [Value.cells] at hcs
      obtain ⟨rfl, rfl, rfl⟩ := hcs
      exact ⟨fun _ => ByteArray.empty, Nat.le_refl _, Nat.zero_le _, fun h => absurd h (Nat.lt_irrefl _)⟩
    · simp [Value.cells] at hcs
      obtain ⟨rfl, rfl, rfl⟩ := hcs
      exact ⟨fun i => ss.getD i ByteArray.empty, isRowS hl hm (fun i hi => hcell i (by simp at hz; omega))⟩
  obtain ⟨a1, rfl, rfl, rfl, w1⟩ := open_int Yba.underlying44 (hval 1 44 v1 rfl rfl) h1
  clear hA0 hval0
  refine (walk a0 len0 cap0 S a1 W w0 w1).mono fun e W' ⟨he, bel⟩ => ?_
  subst he
  exact ⟨_, rfl, _, _, _, [], _, [], hW', trodAll_mk1 (shut_bool Yba.underlying4 _), (trodAll_cons_mk (Below.trod laidOut (by kernel_rfl) (of_decide_eq_true (by kernel_rfl)) k0 bel lt0) (trodAll_cons_mk (shut_int Yba.underlying44 w1) trodAll_mk0)), rfl, bel.frame _, fun h => by cases h⟩

theorem over : Rows.lawS5099CMostRow.holds Yba.pinned (OpenSpec.ofChange Rows.lawS5099CMostSpec) :=
  OpenClaim.holds_of_wide 6 Yba.f6 rfl rfl rfl rfl rfl rfl rfl ⟨rfl, rfl, rfl, rfl, rfl⟩ rfl rfl rfl rfl rfl (by kernel_rfl) Yba.func6 (by kernel_rfl)
    (of_decide_eq_true (by kernel_rfl)) (by unfold Func.isWrapper; first | (rw [if_pos (by decide +kernel)]; kernel_rfl) | (rw [if_neg (by decide +kernel)]; exact ⟨rfl, rfl⟩))
    (fun os started H enc _ => lifted os started H enc)

/-- ████ THE STATEMENT ████ -/
theorem proved : Rows.LawS5099CMostSaid := over
#print axioms proved
end Go.Proofs.Ybulkdaoq.lawS5099CMost

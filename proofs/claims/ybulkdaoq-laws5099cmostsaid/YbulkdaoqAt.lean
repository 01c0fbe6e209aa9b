import Derived.Test.YbulkdaoqRows
import Derived.WalkKit
import Derived.WalkLawsBesides
import Derived.WalkSpells
import Derived.Deep.LoopGhost
import Derived.Deep.OwnRows
import Derived.Deep.Light
import Derived.Deep.RegionWith
import Derived.BigQuiet
import Derived.BigRegion
namespace Go.Proofs.Ybulkdaoq
open Go.RowKit

/-- WHAT THE WALK IS TOLD OF A SLICE THAT CAME IN, its elements by 'mk'. -/
def IsRowF {α : Type} (mk : α → Value) (w : World) (a : Option Addr) (len cap : Nat) (f : Nat → α) : Prop :=
  len ≤ cap ∧ cap ≤ maxLen ∧ (0 < len → ∃ b off, a = some ⟨b, off, none⟩ ∧ b < w.heap.size ∧ ∀ i, i < len → w.cell? ⟨b, off + i, none⟩ = some (mk (f i)))

/-- What 'zzs5099bat' reads. -/
def atv (f : Nat → Int) (len i : Nat) : Int := if i < len then f i else 0

set_option maxHeartbeats 400000 in
theorem at_calls (a : Option Addr) (len cap : Nat) (f : Nat → Int) (i : Nat) (w w1 : World) (h : IsRowF (Value.int .u64) w a len cap f) (hi : i ≤ 1000) (hb : Below w.heap.size w w1) :
    Calls Yba.prog 9 #[.slice a len cap, .int .i64 (i : Int)] w1 fun e w' => e = .returned (.int .u64 (atv f len i)) ∧ w' = w1 := by
  obtain ⟨h1, h2, h3⟩ := h
  unfold maxLen at h2
  have hn : (0 : Int) ≤ (i : Int) := by omega
  by_cases hlt : i < len
  · obtain ⟨b, off, rfl, hbl, hc⟩ := h3 (by omega)
    have hlt' : (i : Int) < (len : Int) := by omega
    have hcell : w1.cell? ⟨b, off + i, none⟩ = some (.int .u64 (f i)) := (hb.cell (p := ⟨b, off + i, none⟩) hbl).trans (hc i hlt)
    have e : atv f len i = f i := by simp [atv, hlt]
    rw [e]
    clear hc h3 hb e
    go_enter Yba.func9, Yba.ntmps9
    go_wp2
    go_ret
    exact ⟨rfl, rfl⟩
  · have hlt' : ¬ (i : Int) < (len : Int) := by omega
    have e : atv f len i = 0 := by simp [atv, hlt]
    rw [e]
    clear h3 hb e
    go_enter Yba.func9, Yba.ntmps9
    go_wp2
    go_ret
    exact ⟨rfl, rfl⟩

/-- The same, the argument however it is written. -/
theorem at_calls' (a : Option Addr) (len cap : Nat) (f : Nat → Int) (z : Int) (i : Nat) (w w1 : World) (h : IsRowF (Value.int .u64) w a len cap f) (hz : z = (i : Int)) (hi : i ≤ 1000) (hb : Below w.heap.size w w1) :
    Calls Yba.prog 9 #[.slice a len cap, .int .i64 z] w1 fun e w' => e = .returned (.int .u64 (atv f len i)) ∧ w' = w1 := by
  subst hz
  exact at_calls a len cap f i w w1 h hi hb

/-- The count at row k, column x of n columns. -/
def V2 (f : Nat → Int) (len n k x : Nat) : Int := atv f len (k * n + x)

theorem at_V2 (a : Option Addr) (len cap : Nat) (f : Nat → Int) (z : Int) (n k x : Nat) (w w1 : World) (h : IsRowF (Value.int .u64) w a len cap f) (hz : z = (k : Int) * (n : Int) + (x : Int)) (hi : k * n + x ≤ 1000) (hb : Below w.heap.size w w1) :
    Calls Yba.prog 9 #[.slice a len cap, .int .i64 z] w1 fun e w' => e = .returned (.int .u64 (V2 f len n k x)) ∧ w' = w1 :=
  at_calls' a len cap f z (k * n + x) w w1 h (by rw [hz]; simp) hi hb

end Go.Proofs.Ybulkdaoq

import Derived.Test.YbulkdaywRows
import Derived.WalkKit
import Derived.WalkLawsBesides
import Derived.WalkSpells
import Derived.Deep.LoopGhost
import Derived.Deep.Light
namespace Go.Proofs.Ybulkdayw
open Go.RowKit

/-- SetMaxLineBytes at a positive limit: the one cell is set. -/
theorem set_calls (b : Nat) (n : Int) (v : Value) (w : World) (hn : 0 < n) (hc : w.cell? ⟨b, 7, none⟩ = some v) (hf : w.frozen? ⟨b, 7, none⟩ = false) :
    Calls Yba.prog 10 #[.pointer (some ⟨b, 0, none⟩), .int .i64 n] w fun e w' => e = .returned (.tuple #[]) ∧ w' = w.setCell ⟨b, 7, none⟩ (.int .i64 n) := by
  have hn' : ¬ n ≤ 0 := by omega
  go_enter Yba.func10, Yba.ntmps10
  go_wp2
  go_end0
  exact ⟨rfl, rfl⟩

set_option maxHeartbeats 400000 in
theorem last_walk (b off len cap : Nat) (a : Option Addr) (f : Nat → Int) (w : World) (hl : len ≤ 1024) (ha : 0 < len → a = some ⟨b, off, none⟩ ∧ b < w.heap.size) (hc : ∀ i, i < len → w.cell? ⟨b, off + i, none⟩ = some (.int .i64 (f i))) :
    Calls Yba.prog 4 #[.slice a len cap] w fun e w' => e = .returned (.bool true) ∧ Below w.heap.size w w' := by
  have hl' : ¬ (1024 : Int) < (len : Int) := by omega
  have AC : Aside (∀ i, i < len → w.cell? ⟨b, off + i, none⟩ = some (.int .i64 (f i))) := hc
  clear hc
  go_enter Yba.func4, Yba.ntmps4
  go_wp2
  go_loopg [4, 5] len (fun g s4 s5 wr => ∃ (k : Nat) (z : Int), k ≤ len ∧ g = len - k ∧ s5 = .int .i64 k ∧ s4 = .int .i64 z ∧ wr.cell? ⟨w.heap.size, 7, none⟩ = some (.int .i64 z) ∧ wr.frozen? ⟨w.heap.size, 7, none⟩ = false ∧ Below w.heap.size w wr)
  case atStart => exact ⟨0, 1048576, Nat.zero_le _, rfl, rfl, rfl, by simp, by simp, (Below.refl _ _).alloc (Nat.le_refl _) _⟩
  case round =>
    obtain ⟨k, z, hk, rfl, rfl, rfl, hz, hf, hb⟩ := hrel
    by_cases hkl : k < len
    · obtain ⟨rfl, hbl⟩ := ha (by omega)
      have hkz : (k : Int) < (len : Int) := by omega
      have cx : wr.cell? ⟨b, off + k, none⟩ = some (.int .i64 (f k)) := (hb.cell (p := ⟨b, off + k, none⟩) hbl).trans (AC.out k hkl)
      have AB : Aside (Below w.heap.size w wr) := hb
      clear hb
      by_cases hv : f k ≤ 0
      · go_wp2_with fail
        refine (set_calls w.heap.size (1 + (k : Int) % 7) _ _ (by omega) hz hf).mono ?_
        rintro e w' ⟨rfl, rfl⟩
        go_wp2
        go_roundg (len - (k + 1))
        case measure => go_light; omega
        case rel => go_light; exact ⟨k + 1, 1 + (k : Int) % 7, by omega, rfl, by simp, rfl, World.cell?_setCell_same _ _ _ hz, by simpa using hf, AB.out.setCell (Nat.le_refl _) _⟩
      · have hv' : 0 < f k := by omega
        go_wp2_with fail
        refine (set_calls w.heap.size (f k) _ _ hv' hz hf).mono ?_
        rintro e w' ⟨rfl, rfl⟩
        go_wp2
        go_roundg (len - (k + 1))
        case measure => go_light; omega
        case rel => go_light; exact ⟨k + 1, f k, by omega, rfl, by simp, rfl, World.cell?_setCell_same _ _ _ hz, by simpa using hf, AB.out.setCell (Nat.le_refl _) _⟩
    · have hkz : ¬ (k : Int) < (len : Int) := by omega
      have AB : Aside (Below w.heap.size w wr) := hb
      clear hb
      go_wp2
      go_ret
      exact ⟨by first | rfl | simp, AB.out⟩

theorem last_long (len cap : Nat) (a : Option Addr) (w : World) (hl : 1024 < len) : Calls Yba.prog 4 #[.slice a len cap] w fun e w' => e = .returned (.bool true) ∧ Below w.heap.size w w' := by
  have hl' : (1024 : Int) < (len : Int) := by omega
  go_enter Yba.func4, Yba.ntmps4
  go_wp2
  go_ret
  exact ⟨rfl, Below.refl _ _⟩

end Go.Proofs.Ybulkdayw

import Derived.Test.YbulkdaoqSettle
import Derived.Test.YbulkdaoqSettleNone
import Derived.Test.YbulkdaoqCBuild
import Derived.Test.YbulkdaoqFull
namespace Go.Proofs.Ybulkdaoq
open Go.RowKit Go.Sort Go.Shelf

/-- A settled clock: what zzs5099cfull asks. -/
def Whole (w w' : World) (n : Nat) (S : Nat → ByteArray) (c sd eb sb kb kp : Nat) (x1 x2 : Value) : Prop :=
  ∃ L' K' sb' sp' us', St w' n n S L' K' c sd eb sb' kb sp' kp x1 x2 us' ∧ ((List.range n).map L').Perm (List.range n) ∧
      (∀ i j, i < j → j < n → ple S (L' i) (L' j)) ∧ (∀ i, i < n → K' i = (L' i : Int) * 3 + 1) ∧ Only [sd, sb, kb] w w'

theorem settle_calls (n s : Nat) (S : Nat → ByteArray) (L : Nat → Nat) (K : Nat → Int) (c sd eb sb kb sp kp : Nat) (x1 x2 : Value) (w : World)
    (h : St w n s S L K c sd eb sb kb sp kp x1 x2 (.slice none 0 0)) (hn : n ≤ 300) (hs : s ≤ n) (hp : ((List.range n).map L).Perm (List.range n)) (hso : ∀ i j, i < j → j < s → ple S (L i) (L j)) (hK : ∀ i, i < s → K i = (L i : Int) * 3 + 1) :
    Calls Yba.prog 12 #[.pointer (some ⟨c, 0, none⟩)] w fun e w' => e = .returned (.tuple #[]) ∧ Whole w w' n S c sd eb sb kb kp x1 x2 := by
  by_cases hlt : s < n
  · exact settle_more n s S L K c sd eb sb kb sp kp x1 x2 w h hn hlt hp hso
  · obtain rfl : s = n := by omega
    refine (settle_none s S L K c sd eb sb kb sp kp x1 x2 _ w h).mono ?_
    rintro e w' ⟨rfl, h', o⟩
    exact ⟨rfl, L, K, sb, sp, _, h', hp, hso, hK, o.mono (by simp)⟩

set_option maxHeartbeats 1000000 in
set_option maxRecDepth 100000 in
theorem most_calls (n s : Nat) (S : Nat → ByteArray) (L : Nat → Nat) (K : Nat → Int) (c sd eb sb kb sp kp : Nat) (x1 x2 : Value) (w : World)
    (h : St w n s S L K c sd eb sb kb sp kp x1 x2 (.slice none 0 0)) (hn : n ≤ 300) (hs : s ≤ n) (hp : ((List.range n).map L).Perm (List.range n)) (hso : ∀ i j, i < j → j < s → ple S (L i) (L j)) (hK : ∀ i, i < s → K i = (L i : Int) * 3 + 1) :
    Calls Yba.prog 14 #[.pointer (some ⟨c, 0, none⟩)] w fun e w' => e = .returned (.tuple #[]) ∧ (n ≤ 8 * (n - s) → Whole w w' n S c sd eb sb kb kp x1 x2) ∧ (¬ n ≤ 8 * (n - s) → ∃ q, w' = w.drewN q) := by
  have hclk := h.clk
  have f3 := h.f3
  have f6 := h.f6
  have hset := fun q => settle_calls n s S L K c sd eb sb kb sp kp x1 x2 (w.drewN q) (h.drewN q) hn hs hp hso hK
  have AS : Aside (∀ q, Calls Yba.prog 12 #[.pointer (some ⟨c, 0, none⟩)] (w.drewN q) fun e w' => e = .returned (.tuple #[]) ∧ Whole (w.drewN q) w' n S c sd eb sb kb kp x1 x2) := hset
  clear h hp hso hK hset
  by_cases hm : n ≤ 8 * (n - s)
  · have hmz : (n : Int) ≤ 8 * ((n : Int) - (s : Int)) := by omega
    go_enter Yba.func14, Yba.ntmps14
    go_wp2_with fail
    go_quiet (fail)
    go_wp2_with (go_at_call 12; refine (AS.out _).mono ?_; rintro e w1 ⟨rfl, hW⟩)
    go_end0
    refine ⟨rfl, fun _ => ?_, fun h => absurd hm h⟩
    obtain ⟨L', K', sb', sp', us', r1, r2, r3, r4, r5⟩ := hW
    exact ⟨L', K', sb', sp', us', r1, r2, r3, r4, ⟨r5.os, r5.tape, r5.output, r5.size, r5.block⟩⟩
  · have hmz : ¬ (n : Int) ≤ 8 * ((n : Int) - (s : Int)) := by omega
    go_enter Yba.func14, Yba.ntmps14
    go_wp2_with fail
    go_quiet (fail)
    go_wp2
    go_end0
    exact ⟨rfl, fun h => absurd h hm, fun _ => ⟨_, rfl⟩⟩

/-- What zzs5099cfull says of a settled clock. -/
theorem full_whole (a : Option Addr) (n cap : Nat) (S : Nat → ByteArray) (c sd eb sb kb kp : Nat) (x1 x2 : Value) (w w1 : World) (h : Whole w w1 n S c sd eb sb kb kp x1 x2) (hn : n ≤ 300) (ha : IsRowF Value.string w1 a n cap S) :
    Calls Yba.prog 13 #[.pointer (some ⟨c, 0, none⟩), .slice a n cap] w1 fun e w' => e = .returned (.bool true) ∧ Below w1.heap.size w1 w' := by
  obtain ⟨L', K', sb', sp', us', r1, r2, r3, r4, r5⟩ := h
  exact full_calls a n cap S L' K' c sd eb sb' kb sp' kp x1 x2 us' w1 r1 hn ha (perm_lt r2) (perm_inj r2) r4 (fun i hi => by unfold sortedIds; rw [ids_sorted r2 r3]; simp [hi])
end Go.Proofs.Ybulkdaoq

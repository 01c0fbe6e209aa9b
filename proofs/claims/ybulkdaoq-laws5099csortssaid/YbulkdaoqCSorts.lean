import Derived.Test.YbulkdaoqSettled
namespace Go.Proofs.Ybulkdaoq
open Go.RowKit Go.Sort Go.Shelf

set_option maxHeartbeats 1000000 in
set_option maxRecDepth 100000 in
/-- LawS5099CSorts says yes. -/
theorem csorts_walk (a : Option Addr) (n cap sel : Nat) (S : Nat → ByteArray) (w : World) (ha : IsRowF Value.string w a n cap S) (hsel : sel ≤ 65535) :
    Calls Yba.prog 5 #[.slice a n cap, .int .u16 (sel : Int)] w fun e w' => e = .returned (.bool true) ∧ Below w.heap.size w w' := by
  have hn63 : n ≤ 9223372036854775807 := by have := ha.1; have := ha.2.1; unfold maxLen at this; omega
  by_cases hn : n ≤ 300
  · have hnz : ¬ (300 : Int) < (n : Int) := by omega
    have hbd := cbuild_calls a n cap sel S w ha hn hsel
    have hsn : sel % (n + 1) ≤ n := Nat.le_of_lt_succ (Nat.mod_lt _ (by omega))
    generalize sel % (n + 1) = s at *
    have AA : Aside (IsRowF Value.string w a n cap S) := ha
    clear ha
    go_enter Yba.func5, Yba.ntmps5
    go_wp2_with (go_at_call 11; refine hbd.mono ?_; rintro e w1 ⟨c, rfl, hB⟩)
    obtain ⟨L, K, sd, eb, sb, kb, x1, x2, h1, hp, hso, hK, hb1, g1, g2, g3⟩ := hB
    refine (settle_calls n s S L K c sd eb sb kb n n x1 x2 w1 h1 hn hsn hp hso hK).mono ?_
    rintro e w2 ⟨rfl, hW⟩
    have hb2 : Below w.heap.size w w2 := by
      obtain ⟨L', K', sb', sp', us', r1, r2, r3, r4, r5⟩ := hW
      exact hb1.trans (r5.toBelow hb1.size (by simp; omega))
    have AW : Aside (Whole w1 w2 n S c sd eb sb kb n x1 x2 ∧ Below w.heap.size w w2) := ⟨hW, hb2⟩
    clear hbd h1 hp hso hK hb1 hW hb2
    go_wp2_with (go_at_call 13; refine (full_whole a n cap S c sd eb sb kb n x1 x2 w1 w2 AW.out.1 hn (AA.out.later AW.out.2)).mono ?_; rintro e w3 ⟨rfl, hb3⟩)
    go_ret
    exact ⟨rfl, AW.out.2.trans ((Only.ofBelow (bs := []) hb3).toBelow AW.out.2.size (by simp))⟩
  · have hnz : (300 : Int) < (n : Int) := by omega
    go_enter Yba.func5, Yba.ntmps5
    go_wp2
    go_ret
    exact ⟨rfl, Below.refl _ _⟩
end Go.Proofs.Ybulkdaoq

import Derived.Test.YbulkdaoqSettled
namespace Go.Proofs.Ybulkdaoq
open Go.RowKit Go.Sort Go.Shelf

set_option maxHeartbeats 2000000 in
set_option maxRecDepth 100000 in
/-- LawS5099CMost says yes. -/
theorem cmost_walk (a : Option Addr) (n cap sel : Nat) (S : Nat → ByteArray) (w : World) (ha : IsRowF Value.string w a n cap S) (hsel : sel ≤ 65535) :
    Calls Yba.prog 6 #[.slice a n cap, .int .u16 (sel : Int)] w fun e w' => e = .returned (.bool true) ∧ Below w.heap.size w w' := by
  have hn63 : n ≤ 9223372036854775807 := by have := ha.1; have := ha.2.1; unfold maxLen at this; omega
  by_cases hn : n ≤ 300
  · have hnz : ¬ (300 : Int) < (n : Int) := by omega
    have hmk29 := run_make_row' (P := Yba.prog) 29 3 (.int .i64 0) 8 Yba.underlying29 cinfo3 rfl .i64 .i64 n (by omega) (by omega)
    have hsz3 : (Yba.prog.info? 3).map (·.size) = some 1 := by kernel_rfl
    have hbd := cbuild_calls a n cap sel S w ha hn hsel
    have hsn : sel % (n + 1) ≤ n := Nat.le_of_lt_succ (Nat.mod_lt _ (by omega))
    generalize sel % (n + 1) = s at *
    have AA : Aside (IsRowF Value.string w a n cap S) := ha
    clear ha
    go_enter Yba.func6, Yba.ntmps6
    go_wp2_with fail
    refine hbd.mono ?_
    rintro e w1 ⟨c, rfl, hB⟩
    obtain ⟨L, K, sd, eb, sb, kb, x1, x2, h1, hp, hso, hK, hb1, g1, g2, g3⟩ := hB
    clear hbd
    have hA := h1.same ((Only.refl [] w1).alloc (.cells (madeCells #[.int .i64 0] n) 3))
    have hsrc : IsRowF (fun x : Nat => Value.int .i64 (x : Int)) (w1.alloc (.cells (madeCells #[.int .i64 0] n) 3)) (some ⟨sb, 0, none⟩) n n L :=
      ⟨Nat.le_refl _, by unfold maxLen; omega, fun h0 => ⟨sb, 0, rfl, hA.srt.lt, fun i hi => by rw [Nat.zero_add]; exact hA.srt.cell hi⟩⟩
    obtain ⟨w2, hrun2, hx2, ho2⟩ := run_copy_arg (P := Yba.prog) (fun x : Nat => Value.int .i64 (x : Int)) (fun _ => rfl) (w1.alloc (.cells (madeCells #[.int .i64 0] n) 3)) 29 29 3 3 Yba.underlying29 hsz3 w1.heap.size n n n (some ⟨sb, 0, none⟩) L _ (Rw.made w1 _ n 3) hsrc
    have o12 : Only [] w1 w2 := by
      have o := Only.trans ((Only.refl [w1.heap.size] w1).alloc _) ho2
      exact ⟨o.os, o.tape, o.output, o.size, fun b hb _ => o.block b hb (by simp; omega)⟩
    have h2 := h1.same o12
    have hb2 : Below w.heap.size w w2 := hb1.trans (o12.toBelow hb1.size (by simp))
    have hmost := most_calls n s S L K c sd eb sb kb n n x1 x2 w2 h2 hn hsn hp hso hK
    have hclk := hA.clk
    have f3 := hA.f3
    have A2 : Aside (St w2 n s S L K c sd eb sb kb n n x1 x2 (.slice none 0 0) ∧ Rw w2 w1.heap.size n (fun i => .int .i64 (L i : Int)) ∧ Below w.heap.size w w2) := ⟨h2, hx2, hb2⟩
    clear h1 hp hso hK hb1 hA hsrc hx2 ho2 o12 h2 hb2
    go_wp2_with fail
    refine hmost.mono ?_
    rintro e w3 ⟨rfl, hY, hN⟩
    clear hmost hrun2 hclk f3 hmk29
    by_cases hm : n ≤ 8 * (n - s)
    · have hmz : (n : Int) ≤ 8 * ((n : Int) - (s : Int)) := by omega
      have hW := hY hm
      have hb3 : Below w.heap.size w w3 := by
        obtain ⟨L', K', sb', sp', us', r1, r2, r3, r4, r5⟩ := hW
        exact A2.out.2.2.trans (r5.toBelow A2.out.2.2.size (by simp; omega))
      have AW : Aside (Whole w2 w3 n S c sd eb sb kb n x1 x2 ∧ Below w.heap.size w w3) := ⟨hW, hb3⟩
      clear hY hN hW hb3
      go_wp2_with (go_at_call 13; refine (full_whole a n cap S c sd eb sb kb n x1 x2 w2 w3 AW.out.1 hn (AA.out.later AW.out.2)).mono ?_; rintro e w4 ⟨rfl, hb4⟩)
      go_ret
      exact ⟨rfl, AW.out.2.trans ((Only.ofBelow (bs := []) hb4).toBelow AW.out.2.size (by simp))⟩
    · have hmz : ¬ (n : Int) ≤ 8 * ((n : Int) - (s : Int)) := by omega
      obtain ⟨q, rfl⟩ := hN hm
      have hclk := A2.out.1.clk
      have f3 := A2.out.1.f3
      have f5 := A2.out.1.f5
      have f6 := A2.out.1.f6
      clear hY hN
      go_wp2_with fail
      go_loopg [9] n (fun g i wr => ∃ k : Nat, k ≤ n ∧ g = n - k ∧ i = .int .i64 k ∧ ∃ q, wr = w2.drewN q)
      case atStart => exact ⟨0, Nat.zero_le _, rfl, rfl, q, rfl⟩
      case round =>
        obtain ⟨k, hk, rfl, rfl, q, rfl⟩ := hrel
        by_cases hkn : k < n
        · have hkz : (k : Int) < (n : Int) := by omega
          have hkz0 : (0 : Int) ≤ (k : Int) := by omega
          have c1 := A2.out.1.srt.cell hkn
          have c2 := A2.out.2.1.cell hkn
          go_wp2_with fail
          go_quiet (fail)
          go_wp2
          go_roundg (n - (k + 1))
          case measure => go_light; omega
          case rel => go_light; exact ⟨k + 1, by omega, rfl, by simp, _, rfl⟩
        · have hkz : ¬ (k : Int) < (n : Int) := by omega
          clear hclk f3 f5 f6
          go_wp2_with (go_at_call 15; refine (entries_calls a n cap s S L K c sd eb sb kb n n x1 x2 _ _ (A2.out.1.drewN _) hn (AA.out.later ⟨A2.out.2.2.os, A2.out.2.2.tape, A2.out.2.2.output, A2.out.2.2.size, A2.out.2.2.block⟩)).mono ?_; rintro e w4 ⟨rfl, q2, rfl⟩)
          go_ret
          exact ⟨rfl, ⟨A2.out.2.2.os, A2.out.2.2.tape, A2.out.2.2.output, A2.out.2.2.size, A2.out.2.2.block⟩⟩
  · have hnz : (300 : Int) < (n : Int) := by omega
    go_enter Yba.func6, Yba.ntmps6
    go_wp2
    go_ret
    exact ⟨rfl, Below.refl _ _⟩
end Go.Proofs.Ybulkdaoq

import Derived.Test.YbulkdaoqBuildParts
namespace Go.Proofs.Ybulkdaoq
open Go.RowKit

/-- What 'k < len(lastMask) && lastMask[k]' gives. -/
def maskv (f : Nat → Bool) (len k : Nat) : Bool := decide (k < len) && f k

set_option maxHeartbeats 4000000 in
set_option maxRecDepth 100000 in
theorem build_calls (a0 a1 a2 : Option Addr) (l0 c0 l1 c1 l2 c2 : Nat) (f0 f2 : Nat → Int) (f1 : Nat → Bool) (n : Nat) (w : World)
    (h0 : IsRowF (Value.int .u64) w a0 l0 c0 f0) (h1 : IsRowF Value.bool w a1 l1 c1 f1) (h2 : IsRowF (Value.int .u64) w a2 l2 c2 f2) (hn : n ≤ 6) :
    Calls Yba.prog 7 #[.slice a0 l0 c0, .int .i64 (n : Int), .slice a1 l1 c1, .slice a2 l2 c2] w fun e w' => ∃ kv lr wr, e = .returned (.pointer (some ⟨wr.heap.size, 0, none⟩)) ∧
      BI w wr n n (V2 f0 l0 n) (V2 f2 l2 n) (maskv f1 l1) kv lr ∧ ∃ C, w' = wr.alloc (.cells C 38) ∧ C[4]? = some (sl w.heap.size n n) ∧ C[9]? = some (sl (w.heap.size + 1) n n) ∧ C[10]? = some (sl (w.heap.size + 2) n n) ∧ C[11]? = some (sl (w.heap.size + 3) n n) := by
  have hmk28 := run_make_row' (P := Yba.prog) 28 22 (.slice none 0 0) 24 Yba.underlying28 info22 rfl .i64 .i64 n (by omega) (by omega)
  have hmk29 := run_make_row' (P := Yba.prog) 29 3 (.int .i64 0) 8 Yba.underlying29 info3 rfl .i64 .i64 n (by omega) (by omega)
  have hmk22 := run_make_row' (P := Yba.prog) 22 34 (.int .u64 0) 8 Yba.underlying22 info34 rfl .i64 .i64 n (by omega) (by omega)
  have A0 : Aside (IsRowF (Value.int .u64) w a0 l0 c0 f0) := h0
  have A1 : Aside (IsRowF Value.bool w a1 l1 c1 f1) := h1
  have A2 : Aside (IsRowF (Value.int .u64) w a2 l2 c2 f2) := h2
  have hl1 : l1 ≤ 9223372036854775807 := by have := h1.1; have := h1.2.1; unfold maxLen at this; omega
  clear h0 h1 h2
  go_enter Yba.func7, Yba.ntmps7
  go_wp2
  clear hmk28 hmk29
  go_loopg [13] n (fun g i wr => ∃ k : Nat, k ≤ n ∧ g = n - k ∧ i = .int .i64 k ∧ ∃ kv lr, (∀ j, j < k → kv j < wr.heap.size) ∧ BI w wr n k (V2 f0 l0 n) (V2 f2 l2 n) (maskv f1 l1) kv lr)
  case atStart => exact ⟨0, Nat.zero_le _, rfl, rfl, fun _ => 0, fun _ => 0, fun j hj => absurd hj (Nat.not_lt_zero _), BI.start w n _ _ _ _ _ _ _ _ _⟩
  case round =>
    obtain ⟨k, hk, rfl, rfl, kv, lr, hkv, hB⟩ := hrel
    obtain ⟨wo, rfl⟩ : ∃ x, x = wr := ⟨_, rfl⟩
    by_cases hkn : k < n
    · have hkz : (k : Int) < (n : Int) := by omega
      have hm : k * n ≤ 36 := Nat.mul_le_mul (by omega : k ≤ 6) hn
      have hmz0 : (0 : Int) ≤ (k : Int) * (n : Int) := by have : ((k * n : Nat) : Int) = (k : Int) * (n : Int) := by simp
                                                          omega
      have hmz : (k : Int) * (n : Int) ≤ 36 := by have : ((k * n : Nat) : Int) = (k : Int) * (n : Int) := by simp
                                                  omega
      have hsz := hB.size
      go_wp2
      have AB : Aside (BI w wo n k (V2 f0 l0 n) (V2 f2 l2 n) (maskv f1 l1) kv lr ∧ ∀ j, j < k → kv j < wo.heap.size) := ⟨hB, hkv⟩
      have hI0 := II.start hB 34
      clear hB hkv
      go_loopg [15] n (fun g i wi => ∃ x : Nat, x ≤ n ∧ g = n - x ∧ i = .int .i64 x ∧ II w (wo.alloc (.cells (madeCells #[.int .u64 0] n) 34)) wi wo.heap.size n k x (V2 f0 l0 n))
      case atStart => exact ⟨0, Nat.zero_le _, rfl, rfl, hI0⟩
      case round =>
        obtain ⟨x, hx, rfl, rfl, hI⟩ := hrel
        obtain ⟨wi, rfl⟩ : ∃ x, x = wr := ⟨_, rfl⟩
        clear hI0
        have n1 : wo.heap.size ≠ w.heap.size + 1 := by omega
        have n2 : w.heap.size + 1 ≠ wo.heap.size := by omega
        by_cases hxn : x < n
        · have hxz : (x : Int) < (n : Int) := by omega
          have cR := hI.row.cell hxn
          have zR := hI.row.frozen x
          have cE := hI.ke.cell hkn
          have zE := hI.ke.frozen k
          simp only [Nat.lt_irrefl, if_false, if_true] at cR cE
          have hcb : (cnt (V2 f0 l0 n k) x : Int) ≤ 6 := by have := cnt_le (V2 f0 l0 n k) x; omega
          have hbw : Below w.heap.size w wi := (AB.out.1.bel.alloc (by omega) _).trans (hI.only.toBelow (B := w.heap.size) (by simp; omega) (by simp; omega))
          have AI : Aside (II w (wo.alloc (.cells (madeCells #[.int .u64 0] n) 34)) wi wo.heap.size n k x (V2 f0 l0 n)) := hI
          have Abw : Aside (Below w.heap.size w wi) := hbw
          clear hI hbw
          have hmx : k * n + x ≤ 1000 := by omega
          by_cases hv : V2 f0 l0 n k x = 0
          · have hvb : (V2 f0 l0 n k x != 0) = false := by simp [hv]
            have AV : Aside (V2 f0 l0 n k x = 0) := hv
            clear hv
            go_wp2_with (go_at_call 9; refine (at_V2 a0 l0 c0 f0 _ n k x w _ A0.out rfl hmx Abw.out).mono ?_; rintro e w' ⟨rfl, rfl⟩)
            go_roundg (n - (x + 1))
            case measure => go_light; omega
            case rel => go_light; exact ⟨x + 1, by omega, rfl, by simp, AI.out.zero n1 AV.out⟩
          · have hvb : (V2 f0 l0 n k x != 0) = true := by simp [hv]
            have AV : Aside (¬ V2 f0 l0 n k x = 0) := hv
            clear hv
            go_wp2_with (go_at_call 9; refine (at_V2 a0 l0 c0 f0 _ n k x w _ A0.out rfl hmx Abw.out).mono ?_; rintro e w' ⟨rfl, rfl⟩)
            go_roundg (n - (x + 1))
            case measure => go_light; omega
            case rel => go_light; exact ⟨x + 1, by omega, rfl, by simp, AI.out.more n1 AV.out⟩
        · have hxz : ¬ (x : Int) < (n : Int) := by omega
          obtain rfl : x = n := by omega
          obtain ⟨hB, hkv⟩ := AB.out
          have hbw : Below w.heap.size w wi := (hB.bel.alloc (by omega) _).trans (hI.only.toBelow (B := w.heap.size) (by simp; omega) (by simp; omega))
          have hsi : wo.heap.size + 1 ≤ wi.heap.size := by have := hI.only.size; simpa using this
          have rK := hI.only.rw (hB.hk.alloc (.cells (madeCells #[.int .u64 0] x) 34)) (by simp; omega)
          have rL := hI.only.rw (hB.hl.alloc (.cells (madeCells #[.int .u64 0] x) 34)) (by simp; omega)
          have rE := hI.only.rw (hB.hle.alloc (.cells (madeCells #[.int .u64 0] x) 34)) (by simp; omega)
          have cK := rK.cell hkn
          have zK := rK.frozen k
          have cL : wi.cell? ⟨w.heap.size + 1 + 1, k, none⟩ = _ := rL.cell hkn
          have zL : wi.frozen? ⟨w.heap.size + 1 + 1, k, none⟩ = false := rL.frozen k
          have cE : wi.cell? ⟨w.heap.size + 1 + 1 + 1, k, none⟩ = _ := rE.cell hkn
          have zE : wi.frozen? ⟨w.heap.size + 1 + 1 + 1, k, none⟩ = false := rE.frozen k
          simp only [Nat.lt_irrefl, if_false, false_and] at cK cL cE
          clear rK rL rE
          have hnext : ∀ (M : Nat → Bool), M k = false → BI w wo x k (V2 f0 l0 x) (V2 f2 l2 x) M kv lr → BI w ((wi.setCell ⟨w.heap.size, k, none⟩ (sl wo.heap.size x x)).setCell ⟨w.heap.size + 1 + 1 + 1, k, none⟩ (.int .i64 (-1 - (k : Int)))) x (k + 1) (V2 f0 l0 x) (V2 f2 l2 x) M (fun j => if j = k then wo.heap.size else kv j) lr :=
            fun M hM hB => hB.next hM 34 rfl hI
          have hkv' : ∀ j, j < k + 1 → (if j = k then wo.heap.size else kv j) < wi.heap.size := fun j hj => by
            by_cases e : j = k
            · rw [if_pos e]; omega
            · rw [if_neg e]; have := hkv j (by omega); omega
          clear hI AB
          by_cases hkl : k < l1
          · obtain ⟨b1, o1, rfl, hb1, hc1⟩ := A1.out.2.2 (by omega)
            have hklz : (k : Int) < (l1 : Int) := by omega
            have cM : wi.cell? ⟨b1, o1 + k, none⟩ = some (.bool (f1 k)) := (hbw.cell (p := ⟨b1, o1 + k, none⟩) hb1).trans (hc1 k hkl)
            have d1 : w.heap.size ≠ b1 := by omega
            have d2 : w.heap.size + 1 + 1 + 1 ≠ b1 := by omega
            clear hc1
            cases hf : f1 k with
            | false =>
              rw [hf] at cM
              have AR : Aside (BI w ((wi.setCell ⟨w.heap.size, k, none⟩ (sl wo.heap.size x x)).setCell ⟨w.heap.size + 1 + 1 + 1, k, none⟩ (.int .i64 (-1 - (k : Int)))) x (k + 1) (V2 f0 l0 x) (V2 f2 l2 x) (maskv f1 l1) (fun j => if j = k then wo.heap.size else kv j) lr ∧ ∀ j, j < k + 1 → (if j = k then wo.heap.size else kv j) < wi.heap.size) :=
                ⟨hnext _ (by simp [maskv, hf]) hB, hkv'⟩
              clear hnext hB hkv hkv' hf hbw
              go_wp2
              go_roundg (x - (k + 1))
              case measure => go_light; omega
              case rel => go_light; exact ⟨k + 1, by omega, rfl, by simp, _, _, by simpa using AR.out.2, AR.out.1⟩
            | true =>
              rw [hf] at cM
              have hM : maskv f1 l1 k = true := by simp [maskv, hf, hkl]
              have hB3 := hnext (fun j => if j = k then false else maskv f1 l1 j) (by simp) (hB.cong (fun j hj => by simp; omega))
              clear hnext hB hkv hf
              obtain ⟨w3, hw3⟩ : ∃ w3, w3 = (wi.setCell ⟨w.heap.size, k, none⟩ (sl wo.heap.size x x)).setCell ⟨w.heap.size + 1 + 1 + 1, k, none⟩ (.int .i64 (-1 - (k : Int))) := ⟨_, rfl⟩
              have hs3 : w3.heap.size = wi.heap.size := by rw [hw3]; simp
              have hL0 := LI.start w3 x k (V2 f2 l2 x) 34
              rw [← hw3] at hB3
              have hwb : Below w.heap.size w w3 := hB3.bel
              have AR : Aside (BI w w3 x (k + 1) (V2 f0 l0 x) (V2 f2 l2 x) (fun j => if j = k then false else maskv f1 l1 j) (fun j => if j = k then wo.heap.size else kv j) lr ∧ w3.heap.size = wi.heap.size ∧ Below w.heap.size w w3 ∧ maskv f1 l1 k = true ∧
                  (wi.setCell ⟨w.heap.size, k, none⟩ (sl wo.heap.size x x)).setCell ⟨w.heap.size + 1 + 1 + 1, k, none⟩ (.int .i64 (-1 - (k : Int))) = w3) := ⟨hB3, hs3, hwb, hM, hw3.symm⟩
              rw [hs3, hw3] at hL0
              clear hB3 hs3 hwb hM hw3 hbw
              go_wp2
              go_loopg [17] x (fun g i wl => ∃ y : Nat, y ≤ x ∧ g = x - y ∧ i = .int .i64 y ∧ LI (((wi.setCell ⟨w.heap.size, k, none⟩ (sl wo.heap.size x x)).setCell ⟨w.heap.size + 1 + 1 + 1, k, none⟩ (.int .i64 (-1 - (k : Int)))).alloc (.cells (madeCells #[.int .u64 0] x) 34)) wl wi.heap.size x k y (V2 f2 l2 x))
              case atStart => exact ⟨0, Nat.zero_le _, rfl, rfl, hL0⟩
              case round =>
                obtain ⟨y, hy, rfl, rfl, hL⟩ := hrel
                obtain ⟨wl, rfl⟩ : ∃ x, x = wr := ⟨_, rfl⟩
                clear hL0
                obtain ⟨hB3, hs3, hwb, hM, hw3⟩ := AR.out
                rw [hw3] at hL
                have hs4 : wi.heap.size + 1 ≤ wl.heap.size := by have := hL.only.size; simp at this; omega
                have hbl : Below w.heap.size w wl := (hwb.alloc (by omega) _).trans (hL.only.toBelow (B := w.heap.size) (by simp; omega) (by simp; omega))
                have AW : Aside _ := hw3
                clear AR hw3
                by_cases hyn : y < x
                · have hyz : (y : Int) < (x : Int) := by omega
                  have cR := hL.row.cell hyn
                  have zR := hL.row.frozen y
                  simp only [Nat.lt_irrefl, if_false] at cR
                  have hmx : k * x + y ≤ 1000 := by omega
                  have AL : Aside (LI (w3.alloc (.cells (madeCells #[.int .u64 0] x) 34)) wl wi.heap.size x k y (V2 f2 l2 x) ∧ Below w.heap.size w wl) := ⟨hL, hbl⟩
                  clear hL hbl hB3 hs3 hwb hM
                  go_wp2_with (go_at_call 9; refine (at_V2 a2 l2 c2 f2 _ x k y w _ A2.out rfl hmx AL.out.2).mono ?_; rintro e w' ⟨rfl, rfl⟩)
                  go_roundg (x - (y + 1))
                  case measure => go_light; omega
                  case rel => go_light; exact ⟨y + 1, by omega, rfl, by simp, by rw [AW.out]; exact AL.out.1.step⟩
                · have hyz : ¬ (y : Int) < (x : Int) := by omega
                  obtain rfl : y = x := by omega
                  have rL := hL.only.rw (hB3.hl.alloc (.cells (madeCells #[.int .u64 0] y) 34)) (by simp; omega)
                  have rE := hL.only.rw (hB3.hle.alloc (.cells (madeCells #[.int .u64 0] y) 34)) (by simp; omega)
                  have uL : ∃ v, wl.cell? ⟨w.heap.size + 1 + 1, k, none⟩ = some v := ⟨_, rL.cell hkn⟩
                  have vL : wl.frozen? ⟨w.heap.size + 1 + 1, k, none⟩ = false := rL.frozen k
                  have uE : ∃ v, wl.cell? ⟨w.heap.size + 1 + 1 + 1, k, none⟩ = some v := ⟨_, rE.cell hkn⟩
                  have vE : wl.frozen? ⟨w.heap.size + 1 + 1 + 1, k, none⟩ = false := rE.frozen k
                  obtain ⟨x1, uL⟩ := uL
                  obtain ⟨x2, uE⟩ := uE
                  have hup := BI.up hB3 hM (by simp; omega) 34 (by rw [hs3]; exact hL)
                  rw [hs3] at hup
                  have AR : Aside (BI w ((wl.setCell ⟨w.heap.size + 1 + 1, k, none⟩ (sl wi.heap.size y y)).setCell ⟨w.heap.size + 1 + 1 + 1, k, none⟩ (.int .i64 (1000 + (k : Int)))) y (k + 1) (V2 f0 l0 y) (V2 f2 l2 y) (maskv f1 l1) (fun j => if j = k then wo.heap.size else kv j) (fun j => if j = k then wi.heap.size else lr j) ∧ ∀ j, j < k + 1 → (if j = k then wo.heap.size else kv j) < wl.heap.size) :=
                    ⟨hup, fun j hj => by have := hkv' j hj; omega⟩
                  clear hup hkv' hL hbl hB3 hs3 hwb hM rL rE cK zK cL zL cE zE cM
                  go_wp2
                  go_roundg (y - (k + 1))
                  case measure => go_light; omega
                  case rel => go_light; exact ⟨k + 1, by omega, rfl, by simp, _, _, by simpa using AR.out.2, AR.out.1⟩
          · have hklz : ¬ (k : Int) < (l1 : Int) := by omega
            have AR : Aside (BI w ((wi.setCell ⟨w.heap.size, k, none⟩ (sl wo.heap.size x x)).setCell ⟨w.heap.size + 1 + 1 + 1, k, none⟩ (.int .i64 (-1 - (k : Int)))) x (k + 1) (V2 f0 l0 x) (V2 f2 l2 x) (maskv f1 l1) (fun j => if j = k then wo.heap.size else kv j) lr ∧ ∀ j, j < k + 1 → (if j = k then wo.heap.size else kv j) < wi.heap.size) :=
              ⟨hnext _ (by simp [maskv, hkl]) hB, hkv'⟩
            clear hnext hB hkv hkv' hbw
            go_wp2
            go_roundg (x - (k + 1))
            case measure => go_light; omega
            case rel => go_light; exact ⟨k + 1, by omega, rfl, by simp, _, _, by simpa using AR.out.2, AR.out.1⟩
    · have hkz : ¬ (k : Int) < (n : Int) := by omega
      obtain rfl : k = n := by omega
      have AB : Aside (BI w wo k k (V2 f0 l0 k) (V2 f2 l2 k) (maskv f1 l1) kv lr) := hB
      clear hB hkv
      go_wp2
      go_ret
      exact ⟨kv, lr, wo, rfl, AB.out, _, rfl, rfl, rfl, rfl, rfl⟩

end Go.Proofs.Ybulkdaoq

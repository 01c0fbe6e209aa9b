import Derived.Test.YbulkdaoqBuild
import Derived.Lib.Builder
namespace Go.Proofs.Ybulkdaoq
open Go.RowKit

/-- WHAT zzs5099bbuild LEAVES. -/
structure Built (w w' : World) (n q kb keb lb leb : Nat) (kv lr : Nat → Nat) (V LV : Nat → Nat → Int) (M : Nat → Bool) : Prop where
  qs : QS w' n q kb keb lb leb kv (fun j => (cnt (V j) n : Int)) (fun j => if M j = true then sl (lr j) n n else .slice none 0 0) (fun j => if M j = true then 1000 + (j : Int) else -1 - (j : Int))
  rk : ∀ j, j < n → Rw w' (kv j) n (fun x => .int .u64 (V j x)) ∧ leb < kv j ∧ kv j < q
  rl : ∀ j, j < n → M j = true → Rw w' (lr j) n (fun x => .int .u64 (LV j x)) ∧ leb < lr j ∧ lr j < q ∧ kv j ≠ lr j
  bel : Below w.heap.size w w'
  base : w.heap.size ≤ kb

theorem build_q (a0 a1 a2 : Option Addr) (l0 c0 l1 c1 l2 c2 : Nat) (f0 f2 : Nat → Int) (f1 : Nat → Bool) (n : Nat) (w : World)
    (h0 : IsRowF (Value.int .u64) w a0 l0 c0 f0) (h1 : IsRowF Value.bool w a1 l1 c1 f1) (h2 : IsRowF (Value.int .u64) w a2 l2 c2 f2) (hn : n ≤ 6) :
    Calls Yba.prog 7 #[.slice a0 l0 c0, .int .i64 (n : Int), .slice a1 l1 c1, .slice a2 l2 c2] w fun e w' => ∃ q kb keb lb leb kv lr, e = .returned (.pointer (some ⟨q, 0, none⟩)) ∧
      Built w w' n q kb keb lb leb kv lr (V2 f0 l0 n) (V2 f2 l2 n) (maskv f1 l1) := by
  refine (build_calls a0 a1 a2 l0 c0 l1 c1 l2 c2 f0 f2 f1 n w h0 h1 h2 hn).mono ?_
  rintro e w' ⟨kv, lr, wr, rfl, hB, C, rfl, e4, e9, e10, e11⟩
  have hs := hB.size
  refine ⟨wr.heap.size, w.heap.size, w.heap.size + 1, w.heap.size + 2, w.heap.size + 3, kv, lr, rfl, ⟨?_, ?_, ?_, hB.bel.alloc (by omega) _, Nat.le_refl _⟩⟩
  · refine ⟨by simpa using e4, by simpa using e9, by simpa using e10, by simpa using e11, (hB.hk.alloc _).congr (fun j hj => by simp [hj]), (hB.hke.alloc _).congr (fun j hj => by simp [hj]), (hB.hl.alloc _).congr (fun j hj => by simp [hj]), (hB.hle.alloc _).congr (fun j hj => by simp [hj]), ?_⟩
    simp
    omega
  · intro j hj
    obtain ⟨r, hr⟩ := hB.rk j hj
    exact ⟨r.alloc _, by omega, r.lt⟩
  · intro j hj hm
    obtain ⟨r, hr, hne⟩ := hB.rl j hj hm
    exact ⟨r.alloc _, by omega, r.lt, hne⟩

/-- A store into knownEntries. -/
theorem QS.setKe {w : World} {n q kb keb lb leb : Nat} {kv : Nat → Nat} {kE : Nat → Int} {lv : Nat → Value} {lE : Nat → Int} (h : QS w n q kb keb lb leb kv kE lv lE) (j : Nat) (z : Int) :
    QS (w.setCell ⟨keb, j, none⟩ (.int .i64 z)) n q kb keb lb leb kv (fun i => if i = j then z else kE i) lv lE := by
  obtain ⟨b1, b2, b3, b4, b5, b6, b7, b8⟩ := h.ne
  have hc : ∀ i, (w.setCell ⟨keb, j, none⟩ (.int .i64 z)).cell? ⟨q, i, none⟩ = w.cell? ⟨q, i, none⟩ := fun i => by
    rw [World.cell?_setCell_other _ _ _ _ (fun e => by have e' : keb = q := congrArg Addr.block e; omega)]
  exact ⟨by rw [hc]; exact h.fk, by rw [hc]; exact h.fke, by rw [hc]; exact h.fl, by rw [hc]; exact h.fle, h.k.setOther (by show kb ≠ keb; omega) _, (h.ke.set j _).congr (fun i _ => by by_cases e : i = j <;> simp [e]),
    h.l.setOther (by show lb ≠ keb; omega) _, h.le.setOther (by show leb ≠ keb; omega) _, by simpa [World.setCell] using h.ne⟩

theorem QS.drewN {w : World} {n q kb keb lb leb : Nat} {kv : Nat → Nat} {kE : Nat → Int} {lv : Nat → Value} {lE : Nat → Int} (h : QS w n q kb keb lb leb kv kE lv lE) (m : Nat) : QS (w.drewN m) n q kb keb lb leb kv kE lv lE :=
  ⟨h.fk, h.fke, h.fl, h.fle, h.k, h.ke, h.l, h.le, h.ne⟩

/-- A pointer held against itself by '!='. -/
theorem neq_same (W : World) (a : Addr) : (binOp .neq 41 (.pointer (some a)) (.pointer (some a))).run Yba.prog W = .ok (.bool false) W := by
  obtain ⟨i0, hi, _, _, _⟩ := info_parts info34
  exact Lib.run_neq_ptr_same W a Yba.underlying41 hi

end Go.Proofs.Ybulkdaoq

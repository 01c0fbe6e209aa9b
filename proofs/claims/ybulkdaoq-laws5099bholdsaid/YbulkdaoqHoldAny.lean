import Derived.Test.YbulkdaoqQueue
import Derived.Laws.CopyOwn
namespace Go.Proofs.Ybulkdaoq
open Go.RowKit

/-- 'copy(dst, src)', both whole rows of n cells. -/
theorem run_copy_rw {P : Program} (w : World) (dT sT ty elem : TypeId) (hu : P.underlying dT = some (.slice elem)) (hsz : (P.info? elem).map (·.size) = some 1)
    (g sb n dc sc : Nat) (f f0 : Nat → Value) (hg : Rw w g n f0) (hsr : Rw w sb n f) (h1 : ∀ i, i < n → (f i).oneCell' = true) :
    ∃ w', (Builtin.copy_ #[dT, sT] ty #[.slice (some ⟨g, 0, none⟩) n dc, .slice (some ⟨sb, 0, none⟩) n sc]).run P w = .ok (goInt n) w' ∧ Rw w' g n f ∧ Only [g] w w' := by
  obtain ⟨cur, t, hg, hc⟩ := hg
  have hlen : n ≤ cur.size := by
    rcases Nat.eq_zero_or_pos n with h0 | h0
    · omega
    · have := (Array.getElem?_eq_some_iff.1 (hc (n - 1) (by omega))).1; omega
  have hr := run_copy_row (P := P) w dT sT ty elem g 0 n dc ⟨sb, 0, none⟩ n sc cur t ((List.range n).map f) hu hsz hg (by simp) (fun j v hj => by
    have e : (⟨sb, 0, none⟩ : Addr).add j = ⟨sb, j, none⟩ := by simp only [Addr.add]; split <;> simp_all
    rw [e]
    simp at hj
    obtain ⟨x, hx, rfl⟩ := hj
    obtain ⟨hj, hx⟩ := List.getElem?_eq_some_iff.1 hx
    simp at hj hx
    subst hx
    exact hsr.cell hj) (by simpa using hlen) (fun v hv => by
    simp at hv
    obtain ⟨i, hi, rfl⟩ := hv
    exact h1 i hi)
  have e : ((List.range n).map f).length = n := by simp
  rw [e] at hr
  refine ⟨_, hr, ⟨_, t, setRow_heap w g _ _ t _ hg, fun i hi => ?_⟩, ⟨rfl, rfl, rfl, by simp [World.setRow], fun k hk hb => setRow_other w g k _ (by simpa using hb)⟩⟩
  simp [List.getElem?_append, hi]

/-- holdLatest, whether the row of last was nil or not. -/
theorem hold_any (n q kb keb lb leb : Nat) (kv : Nat → Nat) (kE : Nat → Int) (lv : Nat → Value) (lE : Nat → Int) (V LV : Nat → Int) (j r : Nat) (wasNil : Bool) (w : World) (hq : QS w n q kb keb lb leb kv kE lv lE)
    (hn : n ≤ 1000) (hj : j < n) (hlv : lv j = if wasNil = true then .slice none 0 0 else sl r n n) (hV : Rw w (kv j) n (fun x => .int .u64 (V x))) (hL : wasNil = false → Rw w r n (fun x => .int .u64 (LV x)) ∧ leb < r ∧ r < q ∧ kv j ≠ r) :
    Calls Yba.prog 8 #[.pointer (some ⟨q, 0, none⟩), .int .i64 (j : Int)] w fun e w' => ∃ g cap, e = .returned (sl g n cap) ∧ Rw w' g n (fun x => .int .u64 (if wasNil = true then V x else LV x)) ∧
      QS w' n q kb keb lb leb kv kE (fun i => if i = j then sl g n cap else lv i) (fun i => if i = j ∧ wasNil = true then kE j else lE i) ∧ Only [lb, leb] w w' ∧ leb < g ∧ g ≠ q ∧ kv j ≠ g ∧ (wasNil = false → g = r ∧ cap = n) ∧ (wasNil = true → w.heap.size ≤ g) := by
  have hkv := hV.lt
  obtain ⟨b1, b2, b3, b4, b5, b6, b7, b8⟩ := hq.ne
  cases wasNil with
  | true =>
    refine (hold_nil n q kb keb lb leb kv kE lv lE V j w hq hn hj (by simpa using hlv) hV).mono ?_
    rintro e w' ⟨g, cap, rfl, hg, hcap, hr, hQ, ho⟩
    exact ⟨g, cap, rfl, by simpa using hr, by simpa using hQ, ho, by omega, by omega, by omega, by simp, fun _ => hg⟩
  | false =>
    obtain ⟨hr, h1, h2, h3⟩ := hL rfl
    simp only [Bool.false_eq_true, if_false] at hlv
    refine (hold_set n q kb keb lb leb kv kE lv lE r n j w hq hn hj hlv).mono ?_
    rintro e w' ⟨rfl, rfl⟩
    refine ⟨r, n, rfl, by simpa using hr, ⟨hq.fk, hq.fke, hq.fl, hq.fle, hq.k, hq.ke, hq.l.congr (fun i _ => ?_), by simpa using hq.le, hq.ne⟩, Only.refl _ _, h1, by omega, h3, fun _ => ⟨rfl, rfl⟩, by simp⟩
    by_cases e : i = j
    · rw [if_pos e, e, hlv]
    · rw [if_neg e]

/-- A new block, and writes into it alone: nothing that was there has turned. -/
theorem Only.behind {w w2 : World} {o : Obj} (h : Only [w.heap.size] (w.alloc o) w2) : Only [] w w2 :=
  have o1 : Only [w.heap.size] w w2 := Only.trans ((Only.refl _ _).alloc _) h
  ⟨o1.os, o1.tape, o1.output, o1.size, fun b hb _ => o1.block b hb (by simp; omega)⟩
theorem QS.same {w w1 : World} {n q kb keb lb leb : Nat} {kv : Nat → Nat} {kE : Nat → Int} {lv : Nat → Value} {lE : Nat → Int} (h : QS w n q kb keb lb leb kv kE lv lE) (o : Only [] w w1) : QS w1 n q kb keb lb leb kv kE lv lE :=
  h.only o (by simp) (by simp) (by simp) (by simp) (by simp)

theorem belN {B : Nat} {w w1 : World} (h : Below B w w1) (n : Nat) : Below B w (w1.drewN n) := ⟨h.os, h.tape, h.output, h.size, h.block⟩

/-- The rows of last as zzs5099bbuild lays them. -/
def lvOf (M : Nat → Bool) (lr : Nat → Nat) (n j : Nat) : Value := if M j = true then sl (lr j) n n else .slice none 0 0
/-- .. and lastEntries. -/
def leOf (M : Nat → Bool) (j : Nat) : Int := if M j = true then 1000 + (j : Int) else -1 - (j : Int)
theorem lvOf_set {M : Nat → Bool} {lr : Nat → Nat} {n j : Nat} (h : M j = true) : lvOf M lr n j = sl (lr j) n n := by simp [lvOf, h]
theorem lvOf_nil {M : Nat → Bool} {lr : Nat → Nat} {n j : Nat} (h : M j = false) : lvOf M lr n j = .slice none 0 0 := by simp [lvOf, h]
theorem lvOf_at (M : Nat → Bool) (lr : Nat → Nat) (n j : Nat) (b : Bool) (h : b = !M j) : lvOf M lr n j = if b = true then .slice none 0 0 else sl (lr j) n n := by
  subst h; unfold lvOf; cases M j <;> rfl
theorem lvOf_eql (M : Nat → Bool) (lr : Nat → Nat) (n j : Nat) (b : Bool) (h : b = !M j) (W : World) : (binOp .eql 22 (lvOf M lr n j) (.slice none 0 0)).run Yba.prog W = .ok (.bool b) W := by
  rw [lvOf_at M lr n j b h]
  cases b
  · exact Lib.run_eql_slice_nil W _ _ _ _ _ _ _ Yba.underlying22
  · exact Lib.run_eql_slice_nil W _ _ _ _ _ _ _ Yba.underlying22
theorem lvOf_guard (M : Nat → Bool) (lr : Nat → Nat) (n j : Nat) (x y : Operand) (W : World) : (eqGuard .eql 22 x y (lvOf M lr n j) (.slice none 0 0)).run Yba.prog W = .ok () W := by
  unfold lvOf; cases M j <;> rfl
theorem lvOf_one (M : Nat → Bool) (lr : Nat → Nat) (n j : Nat) : (lvOf M lr n j).oneCell' = true := by unfold lvOf; cases M j <;> rfl

end Go.Proofs.Ybulkdaoq

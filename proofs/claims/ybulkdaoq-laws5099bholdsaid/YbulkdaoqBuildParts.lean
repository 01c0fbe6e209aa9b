import Derived.Test.YbulkdaoqHold
namespace Go.Proofs.Ybulkdaoq
open Go.RowKit

/-- How many of the first x counts are not 0. -/
def cnt (V : Nat → Int) : Nat → Nat
  | 0 => 0
  | x + 1 => cnt V x + if V x = 0 then 0 else 1
theorem cnt_le (V : Nat → Int) (x : Nat) : cnt V x ≤ x := by
  induction x with
  | zero => simp [cnt]
  | succ x ih => simp only [cnt]; split <;> omega

/-- WHAT HOLDS AT THE OUTER LOOP's HEAD, k members laid. -/
structure BI (w wr : World) (n k : Nat) (V LV : Nat → Nat → Int) (M : Nat → Bool) (kv lr : Nat → Nat) : Prop where
  size : w.heap.size + 4 ≤ wr.heap.size
  bel : Below w.heap.size w wr
  hk : Rw wr w.heap.size n (fun j => if j < k then sl (kv j) n n else .slice none 0 0)
  hke : Rw wr (w.heap.size + 1) n (fun j => .int .i64 (if j < k then (cnt (V j) n : Int) else 0))
  hl : Rw wr (w.heap.size + 2) n (fun j => if j < k ∧ M j = true then sl (lr j) n n else .slice none 0 0)
  hle : Rw wr (w.heap.size + 3) n (fun j => .int .i64 (if j < k then (if M j = true then 1000 + (j : Int) else -1 - (j : Int)) else 0))
  rk : ∀ j, j < k → Rw wr (kv j) n (fun x => .int .u64 (V j x)) ∧ w.heap.size + 4 ≤ kv j
  rl : ∀ j, j < k → M j = true → Rw wr (lr j) n (fun x => .int .u64 (LV j x)) ∧ w.heap.size + 4 ≤ lr j ∧ kv j ≠ lr j

/-- .. AND INSIDE, over the row of known: w1 is the world in which the row was laid at block rb. -/
structure II (w w1 wi : World) (rb n k x : Nat) (V : Nat → Nat → Int) : Prop where
  only : Only [rb, w.heap.size + 1] w1 wi
  row : Rw wi rb n (fun i => .int .u64 (if i < x then V k i else 0))
  ke : Rw wi (w.heap.size + 1) n (fun j => .int .i64 (if j < k then (cnt (V j) n : Int) else if j = k then (cnt (V k) x : Int) else 0))

theorem II.start {w wr : World} {n k : Nat} {V LV : Nat → Nat → Int} {M : Nat → Bool} {kv lr : Nat → Nat} (h : BI w wr n k V LV M kv lr) (t : TypeId) :
    II w (wr.alloc (.cells (madeCells #[.int .u64 0] n) t)) (wr.alloc (.cells (madeCells #[.int .u64 0] n) t)) wr.heap.size n k 0 V :=
  ⟨Only.refl _ _, (Rw.made wr _ n t).congr (fun i _ => by simp), (h.hke.alloc _).congr (fun j _ => by by_cases e : j < k <;> simp [e, cnt])⟩

theorem II.zero {w w1 wi : World} {rb n k x : Nat} {V : Nat → Nat → Int} (h : II w w1 wi rb n k x V) (hne : rb ≠ w.heap.size + 1) (hz : V k x = 0) :
    II w w1 (wi.setCell ⟨rb, x, none⟩ (.int .u64 (V k x))) rb n k (x + 1) V := by
  refine ⟨h.only.setCell (.inl (by simp)) _, (h.row.set x _).congr (fun i _ => ?_), (h.ke.setOther (by show w.heap.size + 1 ≠ rb; omega) _).congr (fun j _ => by simp [cnt, hz])⟩
  by_cases e : i = x
  · subst e; simp
  · rw [if_neg e]
    by_cases hlt : i < x
    · rw [if_pos hlt, if_pos (by omega)]
    · rw [if_neg hlt, if_neg (by omega)]

theorem II.more {w w1 wi : World} {rb n k x : Nat} {V : Nat → Nat → Int} (h : II w w1 wi rb n k x V) (hne : rb ≠ w.heap.size + 1) (hz : ¬ V k x = 0) :
    II w w1 ((wi.setCell ⟨rb, x, none⟩ (.int .u64 (V k x))).setCell ⟨w.heap.size + 1, k, none⟩ (.int .i64 ((cnt (V k) x : Int) + 1))) rb n k (x + 1) V := by
  refine ⟨(h.only.setCell (.inl (by simp)) _).setCell (.inl (by simp)) _, ((h.row.set x _).setOther (by show rb ≠ w.heap.size + 1; omega) _).congr (fun i _ => ?_), ((h.ke.setOther (by show w.heap.size + 1 ≠ rb; omega) _).set k _).congr (fun j _ => ?_)⟩
  · by_cases e : i = x
    · subst e; simp
    · rw [if_neg e]
      by_cases hlt : i < x
      · rw [if_pos hlt, if_pos (by omega)]
      · rw [if_neg hlt, if_neg (by omega)]
  · by_cases e : j = k
    · subst e; simp [cnt, hz]
    · simp [e]

/-- .. AND INSIDE, over the row of last. -/
structure LI (w2 wi : World) (rb n k x : Nat) (LV : Nat → Nat → Int) : Prop where
  only : Only [rb] w2 wi
  row : Rw wi rb n (fun i => .int .u64 (if i < x then LV k i else 0))

theorem LI.start (wr : World) (n k : Nat) (LV : Nat → Nat → Int) (t : TypeId) :
    LI (wr.alloc (.cells (madeCells #[.int .u64 0] n) t)) (wr.alloc (.cells (madeCells #[.int .u64 0] n) t)) wr.heap.size n k 0 LV :=
  ⟨Only.refl _ _, (Rw.made wr _ n t).congr (fun i _ => by simp)⟩

theorem LI.step {w2 wi : World} {rb n k x : Nat} {LV : Nat → Nat → Int} (h : LI w2 wi rb n k x LV) :
    LI w2 (wi.setCell ⟨rb, x, none⟩ (.int .u64 (LV k x))) rb n k (x + 1) LV := by
  refine ⟨h.only.setCell (.inl (by simp)) _, (h.row.set x _).congr (fun i _ => ?_)⟩
  by_cases e : i = x
  · subst e; simp
  · rw [if_neg e]
    by_cases hlt : i < x
    · rw [if_pos hlt, if_pos (by omega)]
    · rw [if_neg hlt, if_neg (by omega)]

theorem BI.start (w : World) (n : Nat) (V LV : Nat → Nat → Int) (M : Nat → Bool) (kv lr : Nat → Nat) (o1 o2 o3 o4 : TypeId) :
    BI w ((((w.alloc (.cells (madeCells #[.slice none 0 0] n) o1)).alloc (.cells (madeCells #[.int .i64 0] n) o2)).alloc (.cells (madeCells #[.slice none 0 0] n) o3)).alloc (.cells (madeCells #[.int .i64 0] n) o4)) n 0 V LV M kv lr := by
  refine ⟨by simp, ((((Below.refl _ w).alloc (Nat.le_refl _) _).alloc (by simp) _).alloc (by simp; omega) _).alloc (by simp; omega) _, ?_, ?_, ?_, ?_, fun j hj => absurd hj (Nat.not_lt_zero _), fun j hj => absurd hj (Nat.not_lt_zero _)⟩
  · exact ((((Rw.made w _ n o1).alloc _).alloc _).alloc _).congr (fun j _ => by simp)
  · have := (((Rw.made (w.alloc (.cells (madeCells #[.slice none 0 0] n) o1)) (.int .i64 0) n o2).alloc (.cells (madeCells #[.slice none 0 0] n) o3)).alloc (.cells (madeCells #[.int .i64 0] n) o4))
    simp only [World.size_alloc] at this
    exact this.congr (fun j _ => by simp)
  · have := ((Rw.made ((w.alloc (.cells (madeCells #[.slice none 0 0] n) o1)).alloc (.cells (madeCells #[.int .i64 0] n) o2)) (.slice none 0 0) n o3).alloc (.cells (madeCells #[.int .i64 0] n) o4))
    simp only [World.size_alloc] at this
    exact this.congr (fun j _ => by simp)
  · have := (Rw.made (((w.alloc (.cells (madeCells #[.slice none 0 0] n) o1)).alloc (.cells (madeCells #[.int .i64 0] n) o2)).alloc (.cells (madeCells #[.slice none 0 0] n) o3)) (.int .i64 0) n o4)
    simp only [World.size_alloc] at this
    exact this.congr (fun j _ => by simp)

/-- 'known[k] = row', 'le[k] = -1 - k': one member more, its row of last nil. -/
theorem BI.next {w wr w1 wi : World} {n k : Nat} {V LV : Nat → Nat → Int} {M : Nat → Bool} {kv lr : Nat → Nat} (h : BI w wr n k V LV M kv lr) (hM : M k = false) (t : TypeId)
    (e1 : w1 = wr.alloc (.cells (madeCells #[.int .u64 0] n) t)) (hi : II w w1 wi wr.heap.size n k n V) :
    BI w ((wi.setCell ⟨w.heap.size, k, none⟩ (sl wr.heap.size n n)).setCell ⟨w.heap.size + 3, k, none⟩ (.int .i64 (-1 - (k : Int)))) n (k + 1) V LV M (fun j => if j = k then wr.heap.size else kv j) lr := by
  have o : Only [w.heap.size + 1] wr wi := by
    have o1 : Only [wr.heap.size, w.heap.size + 1] wr wi := by
      refine Only.trans ?_ hi.only
      rw [e1]
      exact (Only.refl _ _).alloc _
    exact ⟨o1.os, o1.tape, o1.output, o1.size, fun b hb hn => o1.block b hb (by simp at hn ⊢; omega)⟩
  have hs := h.size
  have hsz := o.size
  have hbel := h.bel.trans (o.toBelow (B := w.heap.size) (by omega) (by simp))
  have keep : ∀ {b : Nat} {f : Nat → Value}, Rw wr b n f → b ≠ w.heap.size → b ≠ w.heap.size + 1 → b ≠ w.heap.size + 3 →
      Rw ((wi.setCell ⟨w.heap.size, k, none⟩ (sl wr.heap.size n n)).setCell ⟨w.heap.size + 3, k, none⟩ (.int .i64 (-1 - (k : Int)))) b n f := fun r a1 a2 a3 =>
    ((o.rw r (by simpa using a2)).setOther a1 _).setOther a3 _
  refine ⟨by simp [World.setCell]; omega, (hbel.setCell (Nat.le_refl _) _).setCell (by show _ ≤ w.heap.size + 3; omega) _, ?_, ?_, ?_, ?_, ?_, ?_⟩
  · refine (((o.rw h.hk (by simp)).set k _).setOther (by show w.heap.size ≠ w.heap.size + 3; omega) _).congr (fun j _ => ?_)
    by_cases e : j = k
    · subst e; simp
    · rw [if_neg e]
      by_cases hlt : j < k
      · rw [if_pos hlt, if_pos (by omega), if_neg e]
      · rw [if_neg hlt, if_neg (by omega)]
  · refine ((hi.ke.setOther (by show w.heap.size + 1 ≠ w.heap.size; omega) _).setOther (by show w.heap.size + 1 ≠ w.heap.size + 3; omega) _).congr (fun j _ => ?_)
    by_cases hlt : j < k
    · rw [if_pos hlt, if_pos (by omega)]
    · by_cases e : j = k
      · subst e; simp
      · rw [if_neg hlt, if_neg e, if_neg (by omega)]
  · refine (keep h.hl (by omega) (by omega) (by omega)).congr (fun j _ => ?_)
    by_cases e : j = k
    · subst e; simp [hM]
    · have : (j < k + 1) = (j < k) := by simp; omega
      simp [this]
  · refine (((o.rw h.hle (by simp)).setOther (by show w.heap.size + 3 ≠ w.heap.size; omega) _).set k _).congr (fun j _ => ?_)
    by_cases e : j = k
    · subst e; simp [hM]
    · have : (j < k + 1) = (j < k) := by simp; omega
      simp [this, e]
  · intro j hj
    by_cases e : j = k
    · subst e
      simp only [if_true]
      exact ⟨((hi.row.setOther (by show wr.heap.size ≠ w.heap.size; omega) _).setOther (by show wr.heap.size ≠ w.heap.size + 3; omega) _).congr (fun i hi => by simp [hi]), by omega⟩
    · obtain ⟨r, hr⟩ := h.rk j (by omega)
      rw [if_neg e]
      exact ⟨keep r (by omega) (by omega) (by omega), hr⟩
  · intro j hj hMj
    by_cases e : j = k
    · subst e; rw [hM] at hMj; cases hMj
    · obtain ⟨r, hr, hn⟩ := h.rl j (by omega) hMj
      simp only [if_neg e]
      exact ⟨keep r (by omega) (by omega) (by omega), hr, hn⟩

/-- 'last[k] = lr', 'le[k] = 1000 + k': the last member's row of last is set. -/
theorem BI.up {w w3 wl : World} {n k : Nat} {V LV : Nat → Nat → Int} {M : Nat → Bool} {kv lr : Nat → Nat} (h : BI w w3 n (k + 1) V LV (fun j => if j = k then false else M j) kv lr) (hM : M k = true) (hkv : kv k < w3.heap.size) (t : TypeId)
    (hl : LI (w3.alloc (.cells (madeCells #[.int .u64 0] n) t)) wl w3.heap.size n k n LV) :
    BI w ((wl.setCell ⟨w.heap.size + 2, k, none⟩ (sl w3.heap.size n n)).setCell ⟨w.heap.size + 3, k, none⟩ (.int .i64 (1000 + (k : Int)))) n (k + 1) V LV M kv (fun j => if j = k then w3.heap.size else lr j) := by
  have o : Only [] w3 wl := by
    have o1 : Only [w3.heap.size] w3 wl := Only.trans ((Only.refl _ _).alloc _) hl.only
    exact ⟨o1.os, o1.tape, o1.output, o1.size, fun b hb hn => o1.block b hb (by simp; omega)⟩
  have hs := h.size
  have hsz := o.size
  have hbel := h.bel.trans (o.toBelow (B := w.heap.size) (by omega) (by simp))
  have keep : ∀ {b : Nat} {f : Nat → Value}, Rw w3 b n f → b ≠ w.heap.size + 2 → b ≠ w.heap.size + 3 →
      Rw ((wl.setCell ⟨w.heap.size + 2, k, none⟩ (sl w3.heap.size n n)).setCell ⟨w.heap.size + 3, k, none⟩ (.int .i64 (1000 + (k : Int)))) b n f := fun r a1 a2 =>
    ((o.rw r (by simp)).setOther a1 _).setOther a2 _
  refine ⟨by simp [World.setCell]; omega, (hbel.setCell (by show _ ≤ w.heap.size + 2; omega) _).setCell (by show _ ≤ w.heap.size + 3; omega) _, keep h.hk (by omega) (by omega), keep h.hke (by omega) (by omega), ?_, ?_, ?_, ?_⟩
  · refine (((o.rw h.hl (by simp)).set k _).setOther (by show w.heap.size + 2 ≠ w.heap.size + 3; omega) _).congr (fun j _ => ?_)
    by_cases e : j = k
    · subst e; simp [hM]
    · simp [e]
  · refine (((o.rw h.hle (by simp)).setOther (by show w.heap.size + 3 ≠ w.heap.size + 2; omega) _).set k _).congr (fun j _ => ?_)
    by_cases e : j = k
    · subst e; simp [hM]
    · simp [e]
  · intro j hj
    obtain ⟨r, hr⟩ := h.rk j hj
    exact ⟨keep r (by omega) (by omega), hr⟩
  · intro j hj hMj
    by_cases e : j = k
    · subst e
      simp only [if_true]
      exact ⟨((hl.row.setOther (by show w3.heap.size ≠ w.heap.size + 2; omega) _).setOther (by show w3.heap.size ≠ w.heap.size + 3; omega) _).congr (fun i hi => by simp [hi]), by omega, by omega⟩
    · obtain ⟨r, hr, hn⟩ := h.rl j hj (by simp [e, hMj])
      simp only [if_neg e]
      exact ⟨keep r (by omega) (by omega), hr, hn⟩

theorem BI.cong {w wr : World} {n k : Nat} {V LV : Nat → Nat → Int} {M M' : Nat → Bool} {kv lr : Nat → Nat} (h : BI w wr n k V LV M kv lr) (e : ∀ j, j < k → M j = M' j) : BI w wr n k V LV M' kv lr :=
  ⟨h.size, h.bel, h.hk, h.hke, h.hl.congr (fun j _ => by by_cases hj : j < k <;> simp [hj]; rw [e j hj]), h.hle.congr (fun j _ => by by_cases hj : j < k <;> simp [hj]; rw [e j hj]), h.rk, fun j hj hm => h.rl j hj ((e j hj).trans hm)⟩

end Go.Proofs.Ybulkdaoq

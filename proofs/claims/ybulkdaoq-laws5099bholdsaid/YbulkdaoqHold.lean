import Derived.Test.YbulkdaoqClone
import Derived.Deep.RegionHeld3
namespace Go.Proofs.Ybulkdaoq
open Go.RowKit Go.Lib

/-- A slice over a whole row. -/
abbrev sl (b n c : Nat) : Value := .slice (some ⟨b, 0, none⟩) n c

/-- THE QUEUE IN MEMORY: its four fields, the rows that they lead to. -/
structure QS (w : World) (n q kb keb lb leb : Nat) (kv : Nat → Nat) (kE : Nat → Int) (lv : Nat → Value) (lE : Nat → Int) : Prop where
  fk : w.cell? ⟨q, 4, none⟩ = some (sl kb n n)
  fke : w.cell? ⟨q, 9, none⟩ = some (sl keb n n)
  fl : w.cell? ⟨q, 10, none⟩ = some (sl lb n n)
  fle : w.cell? ⟨q, 11, none⟩ = some (sl leb n n)
  k : Rw w kb n (fun j => sl (kv j) n n)
  ke : Rw w keb n (fun j => .int .i64 (kE j))
  l : Rw w lb n lv
  le : Rw w leb n (fun j => .int .i64 (lE j))
  ne : q < w.heap.size ∧ kb < q ∧ keb < q ∧ lb < q ∧ leb < q ∧ kb < keb ∧ keb < lb ∧ lb < leb

theorem QS.only {w w1 : World} {bs : List Nat} {n q kb keb lb leb : Nat} {kv : Nat → Nat} {kE : Nat → Int} {lv : Nat → Value} {lE : Nat → Int} (h : QS w n q kb keb lb leb kv kE lv lE) (o : Only bs w w1)
    (h1 : q ∉ bs) (h2 : kb ∉ bs) (h3 : keb ∉ bs) (h4 : lb ∉ bs) (h5 : leb ∉ bs) : QS w1 n q kb keb lb leb kv kE lv lE := by
  have hb : ∀ i, w1.cell? ⟨q, i, none⟩ = w.cell? ⟨q, i, none⟩ := fun i => World.cell?_of_block (a := ⟨q, i, none⟩) (o.block q h.ne.1 h1)
  exact ⟨by rw [hb]; exact h.fk, by rw [hb]; exact h.fke, by rw [hb]; exact h.fl, by rw [hb]; exact h.fle, o.rw h.k h2, o.rw h.ke h3, o.rw h.l h4, o.rw h.le h5, Nat.lt_of_lt_of_le h.ne.1 o.size, h.ne.2⟩

theorem hold_post {w w1 : World} {n q kb keb lb leb : Nat} {kv : Nat → Nat} {kE : Nat → Int} {lv : Nat → Value} {lE : Nat → Int} {V : Nat → Value} {g : Nat} (cap j : Nat) (h : QS w n q kb keb lb leb kv kE lv lE)
    (hb : Below w.heap.size w w1) (hg : w.heap.size ≤ g) (hr : Rw w1 g n V) :
    Rw ((w1.setCell ⟨lb, j, none⟩ (sl g n cap)).setCell ⟨leb, j, none⟩ (.int .i64 (kE j))) g n V ∧
    QS ((w1.setCell ⟨lb, j, none⟩ (sl g n cap)).setCell ⟨leb, j, none⟩ (.int .i64 (kE j))) n q kb keb lb leb kv kE (fun i => if i = j then sl g n cap else lv i) (fun i => if i = j then kE j else lE i) ∧
    Only [lb, leb] w ((w1.setCell ⟨lb, j, none⟩ (sl g n cap)).setCell ⟨leb, j, none⟩ (.int .i64 (kE j))) := by
  obtain ⟨b1, b2, b3, b4, b5, b6, b7, b8⟩ := h.ne
  have o1 : Only [] w w1 := Only.ofBelow hb
  have h1 := h.only o1 (by simp) (by simp) (by simp) (by simp) (by simp)
  have hc : ∀ i, ((w1.setCell ⟨lb, j, none⟩ (sl g n cap)).setCell ⟨leb, j, none⟩ (.int .i64 (kE j))).cell? ⟨q, i, none⟩ = w1.cell? ⟨q, i, none⟩ := fun i => by
    rw [World.cell?_setCell_other _ _ _ _ (fun e => by have e' : leb = q := congrArg Addr.block e; omega), World.cell?_setCell_other _ _ _ _ (fun e => by have e' : lb = q := congrArg Addr.block e; omega)]
  refine ⟨(hr.setOther (by show g ≠ lb; omega) _).setOther (by show g ≠ leb; omega) _, ⟨by rw [hc]; exact h1.fk, by rw [hc]; exact h1.fke, by rw [hc]; exact h1.fl, by rw [hc]; exact h1.fle,
    (h1.k.setOther (by show kb ≠ lb; omega) _).setOther (by show kb ≠ leb; omega) _, (h1.ke.setOther (by show keb ≠ lb; omega) _).setOther (by show keb ≠ leb; omega) _,
    (h1.l.set j _).setOther (by show lb ≠ leb; omega) _, ((h1.le.setOther (by show leb ≠ lb; omega) _).set j _).congr (fun i _ => by by_cases e : i = j <;> simp [e]), ?_⟩,
    ((o1.mono (by simp)).setCell (.inl (by simp)) _).setCell (.inl (by simp)) _⟩
  have := hb.size
  simp [World.setCell]
  omega


set_option maxHeartbeats 1000000 in
theorem hold_nil (n q kb keb lb leb : Nat) (kv : Nat → Nat) (kE : Nat → Int) (lv : Nat → Value) (lE : Nat → Int) (V : Nat → Int) (j : Nat) (w : World) (hq : QS w n q kb keb lb leb kv kE lv lE)
    (hn : n ≤ 1000) (hj : j < n) (hlv : lv j = .slice none 0 0) (hV : Rw w (kv j) n (fun x => .int .u64 (V x))) :
    Calls Yba.prog 8 #[.pointer (some ⟨q, 0, none⟩), .int .i64 (j : Int)] w fun e w' => ∃ g cap, e = .returned (sl g n cap) ∧ w.heap.size ≤ g ∧ n ≤ cap ∧ Rw w' g n (fun x => .int .u64 (V x)) ∧
      QS w' n q kb keb lb leb kv kE (fun i => if i = j then sl g n cap else lv i) (fun i => if i = j then kE j else lE i) ∧ Only [lb, leb] w w' := by
  have q22 : ∀ (w : World) (a : Option Addr) (n c n' c' : Nat), (binOp .eql 22 (.slice a n c) (.slice none n' c')).run Yba.prog w = .ok (.bool a.isNone) w := fun w a n c n' c' => Lib.run_eql_slice_nil w _ _ a n c n' c' Yba.underlying22
  obtain ⟨b1, b2, b3, b4, b5, b6, b7, b8⟩ := hq.ne
  have f4 := hq.fk; have f9 := hq.fke; have f10 := hq.fl; have f11 := hq.fle
  have ck := hq.k.cell hj; have cke := hq.ke.cell hj; have cl := hq.l.cell hj; have cle := hq.le.cell hj
  have zl := hq.l.frozen j; have zle := hq.le.frozen j
  rw [hlv] at cl
  have A : Aside (Rw w (kv j) n (fun x => .int .u64 (V x)) ∧ QS w n q kb keb lb leb kv kE lv lE ∧ lv j = .slice none 0 0) := ⟨hV, hq, hlv⟩
  clear hV hq hlv
  have m2 : kb < w.heap.size := by omega
  have m3 : keb < w.heap.size := by omega
  have m4 : lb < w.heap.size := by omega
  have m5 : leb < w.heap.size := by omega
  have n1 : lb ≠ q := by omega
  have n2 : lb ≠ kb := by omega
  have n3 : lb ≠ keb := by omega
  have n4 : leb ≠ q := by omega
  have n5 : leb ≠ kb := by omega
  have n6 : leb ≠ keb := by omega
  have n7 : lb ≠ leb := by omega
  have n8 : leb ≠ lb := by omega
  have hj0 : (0 : Int) ≤ (j : Int) := by omega
  have hj1 : (j : Int) < (n : Int) := by omega
  go_enter Yba.func8, Yba.ntmps8
  go_wp2
  go_region_held3 (fun w' => w'.cell? ⟨q, 4, none⟩ = some (sl kb n n) ∧ w'.cell? ⟨q, 9, none⟩ = some (sl keb n n) ∧ w'.cell? ⟨q, 10, none⟩ = some (sl lb n n) ∧ w'.cell? ⟨q, 11, none⟩ = some (sl leb n n) ∧ w'.cell? ⟨kb, j, none⟩ = some (sl (kv j) n n) ∧ w'.cell? ⟨keb, j, none⟩ = some (.int .i64 (kE j)))
    (go_keep)
    (first | (go_at_call 16; refine (clone_calls (kv j) n n V _ (by omega) hn ?_).mono ?_; (exact A.out.1); rintro e w1 ⟨g, cap, rfl, hg, hcap, hrw, hb⟩; have hzc : ∀ b o, b < w.heap.size → w1.cell? ⟨b, o, none⟩ = w.cell? ⟨b, o, none⟩ := (fun b o h => hb.cell (p := ⟨b, o, none⟩) h); have hzf : ∀ b o, b < w.heap.size → w1.frozen? ⟨b, o, none⟩ = w.frozen? ⟨b, o, none⟩ := (fun b o h => hb.frozen (p := ⟨b, o, none⟩) h)))
  go_wp2
  go_ret
  obtain ⟨_, hq, _⟩ := A.out
  obtain ⟨r1, r2, r3⟩ := hold_post cap j hq ⟨hb.os, hb.tape, hb.output, hb.size, hb.block⟩ (by exact hg) hrw
  exact ⟨g, cap, rfl, hg, hcap, r1, r2, r3⟩

/-- A row of last that is set: it is handed back; nothing turns. -/
theorem hold_set (n q kb keb lb leb : Nat) (kv : Nat → Nat) (kE : Nat → Int) (lv : Nat → Value) (lE : Nat → Int) (r c : Nat) (j : Nat) (w : World) (hq : QS w n q kb keb lb leb kv kE lv lE)
    (_hn : n ≤ 1000) (hj : j < n) (hlv : lv j = sl r n c) :
    Calls Yba.prog 8 #[.pointer (some ⟨q, 0, none⟩), .int .i64 (j : Int)] w fun e w' => e = .returned (sl r n c) ∧ w' = w := by
  have q22 : ∀ (w : World) (a : Option Addr) (n c n' c' : Nat), (binOp .eql 22 (.slice a n c) (.slice none n' c')).run Yba.prog w = .ok (.bool a.isNone) w := fun w a n c n' c' => Lib.run_eql_slice_nil w _ _ a n c n' c' Yba.underlying22
  have f10 := hq.fl
  have cl := hq.l.cell hj
  rw [hlv] at cl
  clear hq hlv
  have hj0 : (0 : Int) ≤ (j : Int) := by omega
  have hj1 : (j : Int) < (n : Int) := by omega
  go_enter Yba.func8, Yba.ntmps8
  go_wp2
  go_ret
  exact ⟨rfl, rfl⟩

/-- 'latest' at a row of last that is set. -/
theorem latest_set (n q kb keb lb leb : Nat) (kv : Nat → Nat) (kE : Nat → Int) (lv : Nat → Value) (lE : Nat → Int) (r c : Nat) (j : Nat) (w : World) (hq : QS w n q kb keb lb leb kv kE lv lE)
    (_hn : n ≤ 1000) (hj : j < n) (hlv : lv j = sl r n c) :
    Calls Yba.prog 10 #[.pointer (some ⟨q, 0, none⟩), .int .i64 (j : Int)] w fun e w' => e = .returned (sl r n c) ∧ w' = w := by
  have f10 := hq.fl
  have cl := hq.l.cell hj
  rw [hlv] at cl
  clear hq hlv
  have hj0 : (0 : Int) ≤ (j : Int) := by omega
  have hj1 : (j : Int) < (n : Int) := by omega
  go_enter Yba.func10, Yba.ntmps10
  go_wp2
  go_ret
  exact ⟨rfl, rfl⟩

end Go.Proofs.Ybulkdaoq

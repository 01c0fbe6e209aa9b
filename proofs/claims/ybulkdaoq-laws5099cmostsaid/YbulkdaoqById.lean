import Derived.Test.YbulkdaoqFull
import Derived.Test.YbulkdaoqPlain
namespace Go.Proofs.Ybulkdaoq
open Go.RowKit Go.Sort Go.Shelf

theorem compare_calls (a b : ByteArray) (w : World) : Calls Yba.prog 18 #[.string a, .string b] w fun e w' => e = .returned (.int .i64 (Lib.compareBytes a.data.toList b.data.toList)) ∧ w' = w := by
  have h := Any.strings_Compare Yba.laysCompare a b w
  change Calls Yba.prog 18 _ _ _ at h
  exact h

/-- What byID gives. -/
def cmpS (S : Nat → ByteArray) (p q : Nat) : Int := Lib.compareBytes (S p).data.toList (S q).data.toList

/-- What the closure reads. -/
structure Reads (W : World) (n : Nat) (S : Nat → ByteArray) (bx c sd eb : Nat) : Prop where
  box : W.cell? ⟨bx, 0, none⟩ = some (.pointer (some ⟨c, 0, none⟩))
  clk : W.cell? ⟨c, 4, none⟩ = some (.pointer (some ⟨sd, 0, none⟩))
  ent : W.cell? ⟨sd, 0, none⟩ = some (sc eb n n)
  id : ∀ i, i < n → W.cell? ⟨eb, i * 5, none⟩ = some (.string (S i))

set_option maxHeartbeats 1000000 in
/-- The closure byID. -/
theorem byid_calls (n p q bx c sd eb : Nat) (S : Nat → ByteArray) (W : World) (h : Reads W n S bx c sd eb) (hp : p < n) (hq : q < n) :
    Calls Yba.prog 17 #[.int .i64 (p : Int), .int .i64 (q : Int), .pointer (some ⟨bx, 0, none⟩)] W fun e w' => e = .returned (.int .i64 (cmpS S p q)) ∧ ∃ m, w' = W.drewN m := by
  obtain ⟨c1, c2, c3, c4⟩ := h
  have i1 := c4 p hp
  have i2 := c4 q hq
  have hc := fun W => compare_calls (S p) (S q) W
  have hp0 : (0 : Int) ≤ (p : Int) := by omega
  have hp1 : (p : Int) < (n : Int) := by omega
  have hq0 : (0 : Int) ≤ (q : Int) := by omega
  have hq1 : (q : Int) < (n : Int) := by omega
  have AC : Aside (∀ W, Calls Yba.prog 18 #[.string (S p), .string (S q)] W fun e w' => e = .returned (.int .i64 (cmpS S p q)) ∧ w' = W) := hc
  clear hc c4
  go_enter Yba.func17, Yba.ntmps17
  go_wp2_with fail
  go_quiet ((go_at_call 18; exact Calls.quiet_of_same (AC.out _)))
  go_wp2
  go_ret
  exact ⟨rfl, _, rfl⟩

/-- The order that the sort is handed. -/
def cfF (S : Nat → ByteArray) (m : Nat) (x y : Fin (m + 1)) : Int := cmpS S x.val y.val

theorem ltF (S : Nat → ByteArray) (m : Nat) (x y : Fin (m + 1)) : ltOf (cfF S m) x y = decide ((S x.val).data.toList < (S y.val).data.toList) := by
  unfold ltOf cfF cmpS
  rw [decide_eq_decide]
  exact cmp_neg _ _

theorem swoF (S : Nat → ByteArray) (m : Nat) : SWO (ltOf (cfF S m)) where
  irrefl x := by rw [ltF]; simp
  trans x y z h1 h2 := by
    rw [ltF] at *
    simp only [decide_eq_true_eq] at *
    exact List.lt_trans h1 h2
  ntrans x y z h1 h2 := by
    rw [ltF] at *
    simp only [decide_eq_false_iff_not] at *
    rw [List.not_lt] at *
    exact List.le_trans h2 h1

theorem reads_only {W W1 : World} {bs : List Nat} {n : Nat} {S : Nat → ByteArray} {bx c sd eb : Nat} (h : Reads W n S bx c sd eb) (o : Only bs W W1) (l1 : bx < W.heap.size) (l2 : c < W.heap.size) (l3 : sd < W.heap.size) (l4 : eb < W.heap.size) (n1 : bx ∉ bs) (n2 : c ∉ bs) (n3 : sd ∉ bs) (n4 : eb ∉ bs) : Reads W1 n S bx c sd eb :=
  ⟨(World.cell?_of_block (a := ⟨bx, 0, none⟩) (o.block bx l1 n1)).trans h.box, (World.cell?_of_block (a := ⟨c, 4, none⟩) (o.block c l2 n2)).trans h.clk, (World.cell?_of_block (a := ⟨sd, 0, none⟩) (o.block sd l3 n3)).trans h.ent,
    fun i hi => (World.cell?_of_block (a := ⟨eb, i * 5, none⟩) (o.block eb l4 n4)).trans (h.id i hi)⟩

/-- slices.SortFunc over the places met since. -/
theorem sort_calls (n s : Nat) (S : Nat → ByteArray) (L : Nat → Nat) (bx c sd eb sb cap : Nat) (w : World) (hr : Reads w n S bx c sd eb) (hs : s < n) (hn : n ≤ 300) (hL : ∀ i, i < n → L i < n)
    (row : Rw w sb n (fun i => .int .i64 (L i : Int))) (l1 : bx < w.heap.size) (l2 : c < w.heap.size) (l3 : sd < w.heap.size) (l4 : eb < w.heap.size) (n1 : bx ≠ sb) (n2 : c ≠ sb) (n3 : sd ≠ sb) (n4 : eb ≠ sb) :
    Calls Yba.prog 19 #[.slice (some ⟨sb, s, none⟩) (n - s) cap, .func (.func 17) #[] #[.pointer (some ⟨bx, 0, none⟩)]] w fun e w' => e = .returned (.tuple #[]) ∧ ∃ L' : Nat → Nat, (∀ i, i < s → L' i = L i) ∧
      ((List.range (n - s)).map fun j => L' (s + j)).Perm ((List.range (n - s)).map fun j => L (s + j)) ∧ (∀ i j, s ≤ i → i < j → j < n → ple S (L' i) (L' j)) ∧ Rw w' sb n (fun i => .int .i64 (L' i : Int)) ∧ Only [sb] w w' := by
  obtain ⟨m, rfl⟩ : ∃ m, n = m + 1 := ⟨n - 1, by omega⟩
  obtain ⟨d, hd⟩ : ∃ d : Array (Fin (m + 1)), d = Array.ofFn (fun j : Fin (m + 1 - s) => (⟨L (s + j.val), hL _ (by have := j.isLt; omega)⟩ : Fin (m + 1))) := ⟨_, rfl⟩
  have hds : d.size = m + 1 - s := by rw [hd]; simp
  have hdj : ∀ j, j < m + 1 - s → (d[j]!).val = L (s + j) := fun j hj => by
    subst hd
    rw [getElem!_pos _ _ (by simpa using hj)]
    simp
  have hlist : d.toList.map (·.val) = (List.range (m + 1 - s)).map fun j => L (s + j) := by
    apply List.ext_getElem (by simp [hds])
    intro j h1 h2
    have hj : j < m + 1 - s := by simpa using h2
    simp only [List.getElem_map, Array.getElem_toList, List.getElem_range]
    rw [← hdj j hj, getElem!_pos _ _ (by omega)]
  have eg : ∀ args w, (callFunc 17 args).run Yba.prog w = .ok (.enter 17 args) w := enters_of Yba.func17 (by kernel_rfl) rfl
  have hcmp : CmpReads Yba.prog 17 #[.pointer (some ⟨bx, 0, none⟩)] (fun x : Fin (m + 1) => .int .i64 (x.val : Int)) (cfF S m) sb s d.size w := fun k os dk hdk x y =>
    byid_calls (m + 1) x.val y.val bx c sd eb S _ (reads_only hr (sorted_only _ _ _ _ _ _ _) l1 l2 l3 l4 (by simpa using n1) (by simpa using n2) (by simpa using n3) (by simpa using n4)) x.isLt y.isLt
  have hH : Holds (fun x : Fin (m + 1) => .int .i64 (x.val : Int)) w sb s d := holds_of_rw _ w sb s (m + 1) _ d row (by omega) (fun j hj => by rw [hdj j (by omega)])
  have h := Any.slices_SortFunc Yba.laysSortFunc (fun x : Fin (m + 1) => .int .i64 (x.val : Int)) (fun _ => rfl) (cfF S m) (swoF S m) 17 #[.pointer (some ⟨bx, 0, none⟩)] sb s cap d w eg hcmp.lays hH row.lt (by omega)
  rw [hds] at h
  change Calls Yba.prog 19 _ _ _ at h
  refine h.mono ?_
  rintro e w' ⟨rfl, d', k, os, hp, hso, rfl⟩
  have hs' : d'.size = m + 1 - s := by rw [hp.1]; exact hds
  refine ⟨rfl, fun i => if i < s then L i else (d'[i - s]!).val, fun i hi => by simp [hi], ?_, ?_, ?_, sorted_only _ _ _ _ _ _ _⟩
  · have hpl := hp.2.2
    have e1 : (d'.extract 0 (m + 1 - s)) = d' := by rw [← hs']; simp
    have e2 : (d.extract 0 (m + 1 - s)) = d := by rw [← hds]; simp
    rw [e1, e2] at hpl
    have hm := hpl.map (·.val)
    rw [hlist] at hm
    have e3 : d'.toList.map (·.val) = (List.range (m + 1 - s)).map fun j => if s + j < s then L (s + j) else (d'[s + j - s]!).val := by
      apply List.ext_getElem (by simp [hs'])
      intro j h1 h2
      have hj : j < m + 1 - s := by simpa using h2
      have hns : ¬ s + j < s := by omega
      have hsub : s + j - s = j := by omega
      simp only [List.getElem_map, Array.getElem_toList, List.getElem_range, if_neg hns, hsub]
      rw [getElem!_pos _ _ (by omega)]
    rw [← e3]
    exact hm
  · intro i j h1 h2 h3
    have := hso (i - s) (j - s) (Nat.zero_le _) (by omega) (by omega)
    rw [ltF] at this
    simp only [if_neg (show ¬ i < s by omega), if_neg (show ¬ j < s by omega)]
    simpa [ple] using this
  · refine (sorted_row _ w sb s k (m + 1) _ d' os row).congr (fun i hi => ?_)
    by_cases hlt : i < s
    · rw [if_neg (by omega)]
      simp [hlt]
    · rw [if_pos (by omega)]
      simp [hlt]

end Go.Proofs.Ybulkdaoq

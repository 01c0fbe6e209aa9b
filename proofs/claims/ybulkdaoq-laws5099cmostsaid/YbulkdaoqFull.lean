import Derived.Test.YbulkdaoqSortW
namespace Go.Proofs.Ybulkdaoq
open Go.RowKit Go.Sort

/-- Is p among the first k places? -/
def seenB (L : Nat → Nat) (k p : Nat) : Bool := (List.range k).any (fun j => L j == p)
theorem seenB_zero (L : Nat → Nat) (p : Nat) : seenB L 0 p = false := rfl
theorem seenB_succ (L : Nat → Nat) (k p : Nat) : seenB L (k + 1) p = if p = L k then true else seenB L k p := by
  unfold seenB
  rw [List.range_succ, List.any_append]
  by_cases e : p = L k
  · simp [e]
  · have e' : (L k == p) = false := by simpa using fun h => e h.symm
    simp [e, e']
theorem seenB_new (L : Nat → Nat) (n k : Nat) (hk : k < n) (hinj : ∀ i j, i < n → j < n → L i = L j → i = j) : seenB L k (L k) = false := by
  unfold seenB
  rw [List.any_eq_false]
  intro j hj
  have hj := List.mem_range.1 hj
  intro e
  have := hinj j k (by omega) hk (by simpa using e)
  omega

/-- The ids in byte order. -/
def sortedIds (S : Nat → ByteArray) (n : Nat) : List (List UInt8) := ((List.range n).map fun i => (S i).data.toList).mergeSort fun x y => decide (x ≤ y)

theorem info4 : (Yba.prog.info? 4).map (fun i => (i.zero, i.size, i.bytes)) = some (some (.bool false), 1, 1) := by kernel_rfl
theorem info9 : (Yba.prog.info? 9).map (fun i => (i.zero, i.size, i.bytes)) = some (some (.string ByteArray.empty), 1, 16) := by kernel_rfl

set_option maxHeartbeats 2000000 in
set_option maxRecDepth 100000 in
/-- zzs5099cfull: where the places are a permutation in the ids' order, the keys theirs, it says yes. -/
theorem full_calls (a : Option Addr) (n cap : Nat) (S : Nat → ByteArray) (L : Nat → Nat) (K : Nat → Int) (c sd eb sb kb sp kp : Nat) (x1 x2 us : Value) (w : World)
    (h : St w n n S L K c sd eb sb kb sp kp x1 x2 us) (hn : n ≤ 300) (ha : IsRowF Value.string w a n cap S)
    (hL : ∀ i, i < n → L i < n) (hinj : ∀ i j, i < n → j < n → L i = L j → i = j) (hK : ∀ i, i < n → K i = (L i : Int) * 3 + 1) (hE : ∀ i, i < n → (sortedIds S n)[i]! = (S (L i)).data.toList) :
    Calls Yba.prog 13 #[.pointer (some ⟨c, 0, none⟩), .slice a n cap] w fun e w' => e = .returned (.bool true) ∧ Below w.heap.size w w' := by
  have hmk26 := run_make_row' (P := Yba.prog) 26 9 (.string ByteArray.empty) 16 Yba.underlying26 info9 rfl .i64 .i64 n (by omega) (by omega)
  have hmk23 := run_make_row' (P := Yba.prog) 23 4 (.bool false) 1 Yba.underlying23 info4 rfl .i64 .i64 n (by omega) (by omega)
  have hsz9 : (Yba.prog.info? 9).map (·.size) = some 1 := by kernel_rfl
  have hclk := h.clk
  have f3 := h.f3
  have f5 := h.f5
  have f6 := h.f6
  have hbA : Below w.heap.size w (w.alloc (.cells (madeCells #[.string ByteArray.empty] n) 9)) := (Below.refl _ _).alloc (Nat.le_refl _) _
  obtain ⟨w1, hrun1, hx1, ho1⟩ := run_copy_arg (P := Yba.prog) Value.string (fun _ => rfl) (w.alloc (.cells (madeCells #[.string ByteArray.empty] n) 9)) 26 26 3 9 Yba.underlying26 hsz9 w.heap.size n n cap a S _ (Rw.made w _ n 9) (ha.later hbA)
  have hstr := strings_calls w.heap.size n n S w1 hx1 hn
  have hz1 := hx1.lt
  have o01 : Only [] w w1 := by
    have o := Only.trans (((Only.refl [w.heap.size] w).alloc _)) ho1
    exact ⟨o.os, o.tape, o.output, o.size, fun b hb _ => o.block b hb (by simp; omega)⟩
  have AH : Aside (St w n n S L K c sd eb sb kb sp kp x1 x2 us ∧ IsRowF Value.string w a n cap S) := ⟨h, ha⟩
  have Ao : Aside (Only [] w w1) := o01
  have AP : Aside ((∀ i, i < n → L i < n) ∧ (∀ i j, i < n → j < n → L i = L j → i = j) ∧ (∀ i, i < n → K i = (L i : Int) * 3 + 1) ∧ (∀ i, i < n → (sortedIds S n)[i]! = (S (L i)).data.toList)) := ⟨hL, hinj, hK, hE⟩
  clear h ha hL hinj hK hE hx1 ho1 o01 hbA
  go_enter Yba.func13, Yba.ntmps13
  go_wp2_with fail
  refine hstr.mono ?_
  rintro e w2 ⟨rfl, ho2, hx2⟩
  clear hstr hrun1 hclk f3 f5 f6
  have o02 : Only [] w w2 := by
    have o := Only.trans (Ao.out.mono (cs := [w.heap.size]) (by simp)) ho2
    exact ⟨o.os, o.tape, o.output, o.size, fun b hb _ => o.block b hb (by simp; omega)⟩
  have hz2 := hx2.lt
  have Ax : Aside (Rw w2 w.heap.size n (fun i => encStr (sortedIds S n)[i]!) ∧ Only [] w w2) := ⟨hx2, o02⟩
  clear hx2 o02 ho2 Ao
  go_wp2_with fail
  have hsm : Rw (w2.alloc (.cells (madeCells #[.bool false] n) 4)) w2.heap.size n (fun p => .bool (seenB L 0 p)) := (Rw.made w2 _ n 4).congr (fun p _ => by rw [seenB_zero])
  go_loopg [8] n (fun g i wr => ∃ k : Nat, k ≤ n ∧ g = n - k ∧ i = .int .i64 k ∧ Rw wr w2.heap.size n (fun p => .bool (seenB L k p)) ∧ Only [w2.heap.size] (w2.alloc (.cells (madeCells #[.bool false] n) 4)) wr)
  case atStart => exact ⟨0, Nat.zero_le _, rfl, rfl, hsm, Only.refl _ _⟩
  case round =>
    obtain ⟨k, hk, rfl, rfl, hsn, how⟩ := hrel
    obtain ⟨w3, rfl⟩ : ∃ x, x = wr := ⟨_, rfl⟩
    clear hsm
    have o03 : Only [] w w3 := Ax.out.2.trans (by
      have o := Only.trans ((Only.refl [w2.heap.size] w2).alloc _) how
      exact ⟨o.os, o.tape, o.output, o.size, fun b hb _ => o.block b hb (by simp; omega)⟩)
    have hlt2 : w.heap.size ≤ w2.heap.size := Ax.out.2.size
    have hxw : Rw w3 w.heap.size n (fun i => encStr (sortedIds S n)[i]!) := how.rw (Ax.out.1.alloc _) (by simp; omega)
    have h3 := AH.out.1.same o03
    by_cases hkn : k < n
    · have hkz : (k : Int) < (n : Int) := by omega
      have hkz0 : (0 : Int) ≤ (k : Int) := by omega
      have hLk := AP.out.1 k hkn
      have hLz : (L k : Int) < (n : Int) := by omega
      have hLz0 : ¬ (L k : Int) < 0 := by omega
      have hLz1 : ¬ (n : Int) ≤ (L k : Int) := by omega
      have hLz2 : (0 : Int) ≤ (L k : Int) := by omega
      have hclk := h3.clk
      have f3 := h3.f3
      have cs := h3.srt.cell hkn
      have cv := hsn.cell hLk
      have zv := hsn.frozen (L k)
      rw [seenB_new L n k hkn AP.out.2.1] at cv
      have o35 : Only [w2.heap.size] w3 (w3.setCell ⟨w2.heap.size, L k, none⟩ (.bool true)) := (Only.refl _ _).setCell (.inl (by simp)) _
      have o15 : Only [w2.heap.size] (w2.alloc (.cells (madeCells #[.bool false] n) 4)) (w3.setCell ⟨w2.heap.size, L k, none⟩ (.bool true)) := how.setCell (.inl (by simp)) _
      have hlts : c < w2.heap.size ∧ sd < w2.heap.size ∧ eb < w2.heap.size ∧ sb < w2.heap.size ∧ kb < w2.heap.size := by
        have := AH.out.1.lt; have := AH.out.1.side.lt; have := AH.out.1.ent.lt; have := AH.out.1.srt.lt; have := AH.out.1.key.lt; omega
      have h5 := h3.only o35 (by simp; omega) (by simp; omega) (by simp; omega) (by simp; omega) (by simp; omega)
      have hx5 := o35.rw hxw (by simp; omega)
      have hs5 : Rw (w3.setCell ⟨w2.heap.size, L k, none⟩ (.bool true)) w2.heap.size n (fun p => .bool (seenB L (k + 1) p)) := (hsn.set (L k) _).congr (fun p _ => by
        rw [seenB_succ]; by_cases e : p = L k <;> simp [e])
      have A5 : Aside _ := And.intro h5 (And.intro hx5 (And.intro hs5 o15))
      clear h3 hsn how hxw o03 o35 h5 hx5 hs5 o15 hlts
      go_wp2_with fail
      generalize w3.setCell ⟨w2.heap.size, L k, none⟩ (.bool true) = w5 at *
      obtain ⟨h5, hx5, hs5, o15⟩ := A5.out
      clear hclk f3 cs cv zv
      have hclk := h5.clk
      have f0 := h5.f0
      have f5 := h5.f5
      have ci := h5.id hLk
      have ck := h5.key.cell hkn
      have cx := hx5.cell hkn
      rw [AP.out.2.2.1 k hkn] at ck
      rw [AP.out.2.2.2 k hkn] at cx
      have cx : w5.cell? ⟨w.heap.size, k, none⟩ = some (.string (S (L k))) := by simpa [encStr] using cx
      clear h5 hx5 hs5 o15
      go_quiet (fail)
      go_wp2
      go_roundg (n - (k + 1))
      case measure => go_light; omega
      case rel => go_light; exact ⟨k + 1, by omega, rfl, by simp, A5.out.2.2.1.drewN _, A5.out.2.2.2.drewN _⟩
    · have hkz : ¬ (k : Int) < (n : Int) := by omega
      have hb3 : Below w.heap.size w w3 := o03.toBelow (Nat.le_refl _) (by simp)
      have hent := entries_calls a n cap n S L K c sd eb sb kb sp kp x1 x2 us w3 h3 hn (AH.out.2.later hb3)
      have Ab : Aside (Below w.heap.size w w3) := hb3
      clear h3 hsn how hxw o03 hb3
      go_wp2_with fail
      refine hent.mono ?_
      rintro e w' ⟨rfl, q, rfl⟩
      clear hent
      go_wp2
      go_ret
      exact ⟨rfl, ⟨Ab.out.os, Ab.out.tape, Ab.out.output, Ab.out.size, Ab.out.block⟩⟩

end Go.Proofs.Ybulkdaoq

import Derived.Test.YbulkdaoqById
import Derived.Test.YbulkdaoqMerge
import Derived.Deep.AppendLies
import Derived.Deep.Cut
namespace Go.Proofs.Ybulkdaoq
open Go.RowKit Go.Sort Go.Shelf

/-- Places as an int row's cells. -/
def nvals (M : List Nat) : List Value := M.map (fun x : Nat => Value.int .i64 (x : Int))
theorem nvals_append (M N : List Nat) : nvals (M ++ N) = nvals M ++ nvals N := by simp [nvals]
theorem nvals_length (M : List Nat) : (nvals M).length = M.length := by simp [nvals]
theorem nvals_one (M : List Nat) : ∀ u ∈ nvals M, u.oneCell' = true := by
  intro u hu
  simp [nvals] at hu
  obtain ⟨x, _, rfl⟩ := hu
  rfl
theorem cinfo3 : (Yba.prog.info? 3).map (fun i => (i.zero, i.size, i.bytes)) = some (some (.int .i64 0), 1, 8) := by kernel_rfl

theorem Only.grown {bs : List Nat} {w w1 w2 : World} {row : Option Nat} (h : Only bs w w1) (hg : w1.grownBy w2 row) (hr : ∀ k, row = some k → w.heap.size ≤ k) : Only bs w w2 :=
  ⟨hg.os.trans h.os, hg.tape.trans h.tape, hg.output.trans h.output, Nat.le_trans h.size hg.size, fun k hk hb => (hg.block k (Nat.lt_of_lt_of_le hk h.size) (fun e => by have := hr k e.symm; omega)).trans (h.block k hk hb)⟩

theorem sl3 {x : Option Addr} {l l' c c' : Nat} (h1 : l = l') (h2 : c = c') : Value.slice x l c = Value.slice x l' c' := by rw [h1, h2]

/-- BEHIND THE MERGE (or without one): the places are in order; the keys are still the elder ones. -/
structure Tail (w wx : World) (n s : Nat) (S : Nat → ByteArray) (K : Nat → Int) (c sd eb sb kb kp : Nat) (x1 x2 : Value) (Lf : Nat → Nat) (sbf spf : Nat) (usf : Value) : Prop where
  st : St wx n s S Lf K c sd eb sbf kb spf kp x1 x2 usf
  perm : ((List.range n).map Lf).Perm (List.range n)
  srt : ∀ i j, i < j → j < n → ple S (Lf i) (Lf j)
  box : wx.cell? ⟨w.heap.size, 0, none⟩ = some (.pointer (some ⟨c, 0, none⟩))
  only : Only [sd, sb] w wx
  big : w.heap.size < wx.heap.size

theorem St.merged {w : World} {n s : Nat} {S : Nat → ByteArray} {L Lf : Nat → Nat} {K : Nat → Int} {c sd eb sb kb sp kp g cap : Nat} {x1 x2 us : Value} (h : St w n s S L K c sd eb sb kb sp kp x1 x2 us) (hg : Rw w g n (fun i => .int .i64 (Lf i : Int)))
    (g1 : c ≠ g) (g2 : sd ≠ g) (g3 : eb ≠ g) (g4 : g ≠ kb) (hc : n ≤ cap) :
    St ((w.setCell ⟨sd, 3, none⟩ (sc g n cap)).setCell ⟨sd, 4, none⟩ (sc sb n sp)) n s S Lf K c sd eb g kb cap kp x1 x2 (sc sb n sp) := by
  obtain ⟨n1, n2, n3, n4, n5, n6, n7, n8, n9, n10⟩ := h.ne
  refine ⟨?_, ((h.side.set 3 _).set 4 _).congr (fun i hi => ?_), (h.ent.setOther (fun e => n5 e.symm) _).setOther (fun e => n5 e.symm) _, (hg.setOther (fun e => g2 e.symm) _).setOther (fun e => g2 e.symm) _, (h.key.setOther (fun e => n7 e.symm) _).setOther (fun e => n7 e.symm) _, ⟨hc, h.cap.2⟩, by simpa [World.setCell] using h.lt, n1, n2, g1, n4, n5, g2, n7, g3, n9, g4⟩
  · rw [World.cell?_setCell_other _ _ _ _ (fun e => n1 (congrArg Addr.block e).symm), World.cell?_setCell_other _ _ _ _ (fun e => n1 (congrArg Addr.block e).symm)]
    exact h.clk
  · match i, hi with
    | 0, _ => rfl
    | 1, _ => rfl
    | 2, _ => rfl
    | 3, _ => rfl
    | 4, _ => rfl
    | 5, _ => rfl
    | 6, _ => rfl

theorem sorted_join {S : Nat → ByteArray} {n s : Nat} {L : Nat → Nat} (hb : ∀ i j, i < j → j < s → ple S (L i) (L j)) (hm : ∀ i j, s ≤ i → i < j → j < n → ple S (L i) (L j)) (hx : s = 0 ∨ ple S (L (s - 1)) (L s)) :
    ∀ i j, i < j → j < n → ple S (L i) (L j) := by
  intro i j hij hj
  by_cases h1 : j < s
  · exact hb i j hij h1
  · by_cases h2 : s ≤ i
    · exact hm i j h2 hij hj
    · rcases hx with hx | hx
      · omega
      · have a1 : ple S (L i) (L (s - 1)) := by
          by_cases e : i = s - 1
          · rw [e]; exact ple_refl _ _
          · exact hb i (s - 1) (by omega) (by omega)
        have a2 : ple S (L s) (L j) := by
          by_cases e : s = j
          · rw [e]; exact ple_refl _ _
          · exact hm s j (Nat.le_refl _) (by omega) hj
        exact ple_trans (ple_trans a1 hx) a2

theorem Reads.drewN {W : World} {n : Nat} {S : Nat → ByteArray} {bx c sd eb : Nat} (h : Reads W n S bx c sd eb) (m : Nat) : Reads (W.drewN m) n S bx c sd eb := ⟨h.box, h.clk, h.ent, h.id⟩

theorem St.resort {w w1 : World} {n s : Nat} {S : Nat → ByteArray} {L L1 : Nat → Nat} {K : Nat → Int} {c sd eb sb kb sp kp : Nat} {x1 x2 us : Value} (h : St w n s S L K c sd eb sb kb sp kp x1 x2 us) (o : Only [sb] w w1) (r : Rw w1 sb n (fun i => .int .i64 (L1 i : Int))) :
    St w1 n s S L1 K c sd eb sb kb sp kp x1 x2 us := by
  obtain ⟨n1, n2, n3, n4, n5, n6, n7, n8, n9, n10⟩ := h.ne
  exact ⟨by rw [World.cell?_of_block (a := ⟨c, 4, none⟩) (o.block c h.lt (by simpa using n3))]; exact h.clk, o.rw h.side (by simpa using n6), o.rw h.ent (by simpa using n8), r, o.rw h.key (by simpa using fun e => n10 e.symm), h.cap, Nat.lt_of_lt_of_le h.lt o.size, h.ne⟩

theorem perm_resort {n s : Nat} {L L1 : Nat → Nat} (hs : s ≤ n) (h1 : ∀ i, i < s → L1 i = L i) (h2 : ((List.range (n - s)).map fun j => L1 (s + j)).Perm ((List.range (n - s)).map fun j => L (s + j))) (h : ((List.range n).map L).Perm (List.range n)) :
    ((List.range n).map L1).Perm (List.range n) := by
  refine List.Perm.trans ?_ h
  have e : n = s + (n - s) := by omega
  rw [e, range_add, range_add]
  have e1 : (List.range s).map L1 = (List.range s).map L := List.map_congr_left (fun i hi => h1 i (List.mem_range.1 hi))
  rw [e1]
  have e2 : s + (n - s) - s = n - s := by omega
  exact List.Perm.append_left _ h2

theorem nvals_get (f : Nat → Nat) (m t : Nat) (u : Value) (h : (nvals ((List.range m).map f))[t]? = some u) : t < m ∧ u = .int .i64 (f t : Int) := by
  simp [nvals] at h
  obtain ⟨x, hx, rfl⟩ := h
  obtain ⟨h1, h2⟩ := List.getElem?_eq_some_iff.1 hx
  simp at h1 h2
  subst h2
  exact ⟨h1, rfl⟩

theorem add_lit (b o t : Nat) : (⟨b, o, none⟩ : Addr).add t = ⟨b, o + t, none⟩ := by simp only [Addr.add]; split <;> simp_all

theorem own_row {w : World} {base : Nat} {v : Value} {n m : Nat} {M : List Nat} (h : w.ownsRow base 3 1 v m (nvals M)) (hl : M.length = n) (hm : m = n) (hn : 0 < n) :
    ∃ g cap, v = sc g n cap ∧ base ≤ g ∧ n ≤ cap ∧ Rw w g n (fun i => .int .i64 ((M.getD i 0 : Nat) : Int)) := by
  subst hm
  obtain ⟨g, cap, hv, hg, hc, _, hr⟩ := Rw.ofOwns h hn
  refine ⟨g, cap, hv, hg, hc, hr.congr (fun i hi => ?_)⟩
  have hi' : i < M.length := by omega
  simp [nvals, List.getElem?_eq_getElem hi']

theorem getD_map (M : List Nat) (n : Nat) (h : M.length = n) : (List.range n).map (fun i => M.getD i 0) = M := by
  apply List.ext_getElem (by simp [h])
  intro i h1 h2
  simp [List.getElem?_eq_getElem h2]

theorem getD_sorted {S : Nat → ByteArray} {M : List Nat} {n : Nat} (hl : M.length = n) (h : M.Pairwise (ple S)) : ∀ i j, i < j → j < n → ple S (M.getD i 0) (M.getD j 0) := by
  intro i j hij hj
  have hp := List.pairwise_iff_getElem.1 h i j (by omega) (by omega) hij
  simpa [List.getElem?_eq_getElem (show i < M.length by omega), List.getElem?_eq_getElem (show j < M.length by omega)] using hp

end Go.Proofs.Ybulkdaoq

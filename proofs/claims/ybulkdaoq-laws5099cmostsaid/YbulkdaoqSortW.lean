import Derived.Test.YbulkdaoqClock
import Derived.Laws.CopyOwn
import Derived.Sort.Grow
namespace Go.Proofs.Ybulkdaoq
open Go.RowKit Go.Sort

section
variable {α : Type} [Inhabited α]

theorem sorted_only (enc : α → Value) (w : World) (blk off m : Nat) (dk : Array α) (os : Array Obj) : Only [blk] w (grow (putRow enc (Sort.ahead w m) blk off dk) os) := by
  refine ⟨rfl, rfl, rfl, by simp, fun k hk hb => ?_⟩
  rw [heap_grow_old _ _ (by simpa using hk)]
  have hne : blk ≠ k := fun e => hb (by simp [e])
  show (w.heap.modify blk _)[k]? = _
  rw [Array.getElem?_modify, if_neg hne]

theorem sorted_row (enc : α → Value) (w : World) (blk off m N : Nat) (f : Nat → Value) (dk : Array α) (os : Array Obj) (h : Rw w blk N f) :
    Rw (grow (putRow enc (Sort.ahead w m) blk off dk) os) blk N (fun i => if off ≤ i ∧ i < off + dk.size then enc dk[i - off]! else f i) := by
  have hlt := h.lt
  obtain ⟨c, t, hb, hc⟩ := h
  refine ⟨putCells enc off dk c, t, ?_, fun i hi => ?_⟩
  · rw [heap_grow_old _ _ (by simpa using hlt)]
    show (w.heap.modify blk _)[blk]? = _
    rw [Array.getElem?_modify, if_pos rfl, hb]
    rfl
  · have hs : i < c.size := (Array.getElem?_eq_some_iff.1 (hc i hi)).1
    have hci : c[i] = f i := (Array.getElem?_eq_some_iff.1 (hc i hi)).2
    simp only [putCells, Array.getElem?_mapIdx, Array.getElem?_eq_getElem hs, Option.map_some, hci]

theorem holds_of_rw (enc : α → Value) (w : World) (blk off N : Nat) (f : Nat → Value) (d : Array α) (h : Rw w blk N f) (hN : off + d.size ≤ N) (hf : ∀ j, j < d.size → f (off + j) = enc d[j]!) : Holds enc w blk off d :=
  fun j hj => ⟨by rw [h.cell (i := off + j) (by omega), hf j hj], h.frozen _⟩
end

/-- 'copy(dst, src)', dst a whole row of n cells, src an argument. -/
theorem run_copy_arg {P : Program} {α : Type} (mk : α → Value) (hmk : ∀ x, (mk x).oneCell' = true) (w : World) (dT sT ty elem : TypeId) (hu : P.underlying dT = some (.slice elem)) (hsz : (P.info? elem).map (·.size) = some 1)
    (g n dc cap : Nat) (a : Option Addr) (S : Nat → α) (f0 : Nat → Value) (hg : Rw w g n f0) (ha : IsRowF mk w a n cap S) :
    ∃ w', (Builtin.copy_ #[dT, sT] ty #[.slice (some ⟨g, 0, none⟩) n dc, .slice a n cap]).run P w = .ok (goInt n) w' ∧ Rw w' g n (fun i => mk (S i)) ∧ Only [g] w w' := by
  rcases Nat.eq_zero_or_pos n with h0 | h0
  · subst h0
    have hr := run_copy_none (P := P) w dT sT ty elem (some ⟨g, 0, none⟩) a 0 dc 0 cap hu hsz (by simp)
    exact ⟨w, hr, hg.congr (fun i hi => absurd hi (Nat.not_lt_zero _)), Only.refl _ _⟩
  · obtain ⟨b, off, rfl, hbl, hcs⟩ := ha.2.2 h0
    obtain ⟨cur, t, hg, hc⟩ := hg
    have hlen : n ≤ cur.size := by have := (Array.getElem?_eq_some_iff.1 (hc (n - 1) (by omega))).1; omega
    have hr := run_copy_row (P := P) w dT sT ty elem g 0 n dc ⟨b, off, none⟩ n cap cur t ((List.range n).map fun i => mk (S i)) hu hsz hg (by simp) (fun j v hj => by
      have e : (⟨b, off, none⟩ : Addr).add j = ⟨b, off + j, none⟩ := by simp only [Addr.add]; split <;> simp_all
      rw [e]
      simp at hj
      obtain ⟨x, hx, rfl⟩ := hj
      obtain ⟨hj, hx⟩ := List.getElem?_eq_some_iff.1 hx
      simp at hj hx
      subst hx
      exact hcs _ hj) (by simpa using hlen) (fun v hv => by
      simp at hv
      obtain ⟨i, hi, rfl⟩ := hv
      exact hmk _)
    have e : ((List.range n).map fun i => mk (S i)).length = n := by simp
    rw [e] at hr
    refine ⟨_, hr, ⟨_, t, setRow_heap w g _ _ t _ hg, fun i hi => ?_⟩, ⟨rfl, rfl, rfl, by simp [World.setRow], fun k hk hb => setRow_other w g k _ (by simpa using hb)⟩⟩
    simp [List.getElem?_append, hi]

/-- sort.Strings over a row of the call's own. -/
theorem strings_calls (g n cap : Nat) (S : Nat → ByteArray) (w : World) (hg : Rw w g n (fun i => .string (S i))) (hn : n ≤ 300) :
    Calls Yba.prog 20 #[.slice (some ⟨g, 0, none⟩) n cap] w fun e w' => e = .returned (.tuple #[]) ∧ Only [g] w w' ∧
      Rw w' g n (fun i => encStr ((((List.range n).map fun i => (S i).data.toList).mergeSort fun x y => decide (x ≤ y))[i]!)) := by
  have hl : ((List.range n).map fun i => (S i).data.toList).length = n := by simp
  have hm : (((List.range n).map fun i => (S i).data.toList).mergeSort fun x y => decide (x ≤ y)).length = n := by rw [List.length_mergeSort]; exact hl
  have h := Any.sort_Strings Yba.laysStrings g 0 cap ((List.range n).map fun i => (S i).data.toList) w
    (holds_of_rw encStr w g 0 n _ _ hg (by simp) (fun j hj => by
      simp at hj
      simp [hj, encStr])) hg.lt (by rw [hl]; omega)
  rw [hl] at h
  change Calls Yba.prog 20 _ _ _ at h
  refine h.mono ?_
  rintro e w' ⟨rfl, m, os, rfl⟩
  refine ⟨rfl, sorted_only _ _ _ _ _ _ _, (sorted_row encStr w g 0 m n _ _ os hg).congr (fun i hi => ?_)⟩
  simp [hm, hi]

end Go.Proofs.Ybulkdaoq

import Derived.Deep.OwnRows
import Derived.Below
import Derived.Deep.Draws
import Derived.WalkKit
namespace Go.Proofs.Ybulkdaoq
open Go.RowKit

/-- BLOCK b BEGINS WITH n CELLS, NONE FROZEN, CELL i HOLDING 'f i'. -/
def Rw (w : World) (b n : Nat) (f : Nat → Value) : Prop := ∃ c t, w.heap[b]? = some (.cells c t (0, 0)) ∧ ∀ i, i < n → c[i]? = some (f i)

namespace Rw
variable {w : World} {b n : Nat} {f g : Nat → Value}

theorem cell (h : Rw w b n f) {i : Nat} (hi : i < n) : w.cell? ⟨b, i, none⟩ = some (f i) := by
  obtain ⟨c, t, hb, hc⟩ := h
  simp [World.cell?, hb, hc i hi]
theorem frozen (h : Rw w b n f) (i : Nat) : w.frozen? ⟨b, i, none⟩ = false := by
  obtain ⟨c, t, hb, _⟩ := h
  simp [World.frozen?, hb]
theorem lt (h : Rw w b n f) : b < w.heap.size := by
  obtain ⟨c, t, hb, _⟩ := h
  exact (Array.getElem?_eq_some_iff.1 hb).1
theorem congr (h : Rw w b n f) (e : ∀ i, i < n → f i = g i) : Rw w b n g := by
  obtain ⟨c, t, hb, hc⟩ := h
  exact ⟨c, t, hb, fun i hi => by rw [hc i hi, e i hi]⟩
theorem of_block {w' : World} (h : Rw w b n f) (e : w'.heap[b]? = w.heap[b]?) : Rw w' b n f := by
  obtain ⟨c, t, hb, hc⟩ := h
  exact ⟨c, t, e.trans hb, hc⟩
theorem set (h : Rw w b n f) (i : Nat) (v : Value) : Rw (w.setCell ⟨b, i, none⟩ v) b n (fun j => if j = i then v else f j) := by
  obtain ⟨c, t, hb, hc⟩ := h
  refine ⟨c.setIfInBounds i v, t, ?_, fun j hj => ?_⟩
  · simp [World.setCell, Array.getElem?_modify, hb]
  · rw [Array.getElem?_setIfInBounds]
    have hs : j < c.size := (Array.getElem?_eq_some_iff.1 (hc j hj)).1
    by_cases e : j = i
    · subst e
      simp [hs]
    · rw [if_neg (fun h => e h.symm)]
      show c[j]? = some (if j = i then v else f j)
      rw [if_neg e]
      exact hc j hj
theorem setOther (h : Rw w b n f) {a : Addr} (ha : b ≠ a.block) (v : Value) : Rw (w.setCell a v) b n f := h.of_block (Below.heap_setCell _ _ _ _ ha)
theorem alloc (h : Rw w b n f) (o : Obj) : Rw (w.alloc o) b n f := h.of_block (Below.heap_alloc _ _ _ h.lt)
theorem drew (h : Rw w b n f) : Rw w.drew b n f := h
theorem drewN (h : Rw w b n f) (k : Nat) : Rw (w.drewN k) b n f := h
theorem below {w' : World} {B : Nat} (h : Rw w b n f) (hb : Below B w w') (hB : b < B) : Rw w' b n f := h.of_block (hb.block b hB)
theorem mono (h : Rw w b n f) {m : Nat} (hm : m ≤ n) : Rw w b m f := by
  obtain ⟨c, t, hb, hc⟩ := h
  exact ⟨c, t, hb, fun i hi => hc i (Nat.lt_of_lt_of_le hi hm)⟩
end Rw

theorem Rw.made (w : World) (z : Value) (n : Nat) (t : TypeId) : Rw (w.alloc (.cells (madeCells #[z] n) t)) w.heap.size n (fun _ => z) := by
  obtain ⟨c, hb, _, hc⟩ := World.rowIs_made w z n t
  exact ⟨c, t, hb, hc⟩

theorem Rw.lit (w : World) (c : Array Value) (t : TypeId) (n : Nat) (f : Nat → Value) (h : ∀ i, i < n → c[i]? = some (f i)) : Rw (w.alloc (.cells c t)) w.heap.size n f :=
  ⟨c, t, Go.Deep.blk_alloc_new _ _, h⟩

theorem Rw.ofOwns {w : World} {base e n : Nat} {v : Value} {xs : List Value} (h : w.ownsRow base e 1 v n xs) (hn : 0 < n) :
    ∃ g cap, v = .slice (some ⟨g, 0, none⟩) n cap ∧ base ≤ g ∧ n ≤ cap ∧ cap ≤ maxLen ∧ Rw w g n (fun i => xs.getD i default) := by
  obtain ⟨hl, h2⟩ := h
  rcases h2 with ⟨_, h0⟩ | ⟨g, cap, cur, hv, hb, hg, hc, hm, hs, ht⟩
  · omega
  · refine ⟨g, cap, hv, hb, hc, hm, cur, e, hg, fun i hi => ?_⟩
    have h1 : i < cur.size := by omega
    have e1 : xs[i]? = cur.toList[i]? := by rw [← ht, List.getElem?_take_of_lt (by omega)]
    show cur[i]? = some (xs.getD i default)
    rw [List.getD_eq_getElem?_getD, e1, Array.getElem?_toList, Array.getElem?_eq_getElem h1]
    rfl

/-- ONLY THE BLOCKS 'bs' OF THOSE THAT WERE THERE MAY HAVE TURNED. -/
structure Only (bs : List Nat) (w w' : World) : Prop where
  os : w'.os = w.os
  tape : w'.tape = w.tape
  output : w'.output = w.output
  size : w.heap.size ≤ w'.heap.size
  block : ∀ k, k < w.heap.size → k ∉ bs → w'.heap[k]? = w.heap[k]?

namespace Only
variable {bs : List Nat} {w w1 w2 : World}
theorem refl (bs : List Nat) (w : World) : Only bs w w := ⟨rfl, rfl, rfl, Nat.le_refl _, fun _ _ _ => rfl⟩
theorem trans (h : Only bs w w1) (k : Only bs w1 w2) : Only bs w w2 :=
  ⟨k.os.trans h.os, k.tape.trans h.tape, k.output.trans h.output, Nat.le_trans h.size k.size, fun i hi hb => (k.block i (Nat.lt_of_lt_of_le hi h.size) hb).trans (h.block i hi hb)⟩
theorem mono {cs : List Nat} (h : Only bs w w1) (hs : ∀ b, b ∈ bs → b ∈ cs) : Only cs w w1 := ⟨h.os, h.tape, h.output, h.size, fun k hk hb => h.block k hk fun e => hb (hs k e)⟩
theorem drew (h : Only bs w w1) : Only bs w w1.drew := ⟨h.os, h.tape, h.output, h.size, h.block⟩
theorem drewN (h : Only bs w w1) (n : Nat) : Only bs w (w1.drewN n) := ⟨h.os, h.tape, h.output, h.size, h.block⟩
theorem alloc (h : Only bs w w1) (o : Obj) : Only bs w (w1.alloc o) :=
  h.trans ⟨rfl, rfl, rfl, by simp, fun k hk _ => Below.heap_alloc _ _ _ hk⟩
theorem setCell (h : Only bs w w1) {p : Addr} (hp : p.block ∈ bs ∨ w.heap.size ≤ p.block) (u : Value) : Only bs w (w1.setCell p u) := by
  refine ⟨h.os, h.tape, h.output, by simpa [World.setCell] using h.size, fun k hk hb => ?_⟩
  rw [Below.heap_setCell _ _ _ _ (fun e => by subst e; rcases hp with hp | hp; exact hb hp; omega)]
  exact h.block k hk hb
theorem ofBelow (h : Below w.heap.size w w1) : Only bs w w1 := ⟨h.os, h.tape, h.output, h.size, fun k hk _ => h.block k hk⟩
theorem toBelow {B : Nat} (h : Only bs w w1) (hB : B ≤ w.heap.size) (hb : ∀ b, b ∈ bs → B ≤ b) : Below B w w1 :=
  ⟨h.os, h.tape, h.output, h.size, fun k hk => h.block k (by omega) fun e => by have := hb k e; omega⟩
theorem rw {b n : Nat} {f : Nat → Value} (h : Only bs w w1) (r : Rw w b n f) (hb : b ∉ bs) : Rw w1 b n f := r.of_block (h.block b r.lt hb)
end Only

end Go.Proofs.Ybulkdaoq

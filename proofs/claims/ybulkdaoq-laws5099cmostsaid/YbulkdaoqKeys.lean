import Derived.Test.YbulkdaoqSettleParts
namespace Go.Proofs.Ybulkdaoq
open Go.RowKit Go.Sort Go.Shelf

/-- WHILE THE KEYS ARE LAID AGAIN: k of them stand. -/
structure Kg (w wx : World) (n s : Nat) (S : Nat → ByteArray) (c sd eb sb kb kp : Nat) (x1 x2 : Value) (Lf : Nat → Nat) (sbf spf : Nat) (usf : Value) (k : Nat) (K' : Nat → Int) : Prop where
  clk : wx.cell? ⟨c, 4, none⟩ = some (.pointer (some ⟨sd, 0, none⟩))
  side : Rw wx sd 7 (sideF x1 x2 (sc sbf n spf) usf (sc kb k kp) eb n s)
  ent : Rw wx eb (5 * n) (eCell S)
  srt : Rw wx sbf n (fun i => .int .i64 (Lf i : Int))
  key : Rw wx kb n (fun i => .int .u64 (K' i))
  cap : n ≤ spf ∧ n ≤ kp
  lt : c < wx.heap.size
  ne : c ≠ sd ∧ c ≠ eb ∧ c ≠ sbf ∧ c ≠ kb ∧ sd ≠ eb ∧ sd ≠ sbf ∧ sd ≠ kb ∧ eb ≠ sbf ∧ eb ≠ kb ∧ sbf ≠ kb
  done : ∀ i, i < k → K' i = (Lf i : Int) * 3 + 1
  box : wx.cell? ⟨w.heap.size, 0, none⟩ = some (.pointer (some ⟨c, 0, none⟩))
  bx : w.heap.size ≠ sd ∧ w.heap.size ≠ kb
  only : Only [sd, sb, kb] w wx
  big : w.heap.size < wx.heap.size

theorem sideF_set5 (x1 x2 sv us kv kw : Value) (eb n s : Nat) : ∀ i, i < 7 → (if i = 5 then kw else sideF x1 x2 sv us kv eb n s i) = sideF x1 x2 sv us kw eb n s i := by
  intro i hi
  match i, hi with
  | 0, _ => rfl
  | 1, _ => rfl
  | 2, _ => rfl
  | 3, _ => rfl
  | 4, _ => rfl
  | 5, _ => rfl
  | 6, _ => rfl

theorem sideF_set6 (x1 x2 sv us kv : Value) (eb n s m : Nat) : ∀ i, i < 7 → (if i = 6 then Value.int .i64 (m : Int) else sideF x1 x2 sv us kv eb n s i) = sideF x1 x2 sv us kv eb n m i := by
  intro i hi
  match i, hi with
  | 0, _ => rfl
  | 1, _ => rfl
  | 2, _ => rfl
  | 3, _ => rfl
  | 4, _ => rfl
  | 5, _ => rfl
  | 6, _ => rfl

section
variable {w wx : World} {n s : Nat} {S : Nat → ByteArray} {K : Nat → Int} {c sd eb sb kb kp : Nat} {x1 x2 : Value} {Lf : Nat → Nat} {sbf spf : Nat} {usf : Value} {k : Nat} {K' : Nat → Int}

theorem Tail.start (h : Tail w wx n s S K c sd eb sb kb kp x1 x2 Lf sbf spf usf) (b1 : sd < w.heap.size) (b2 : kb < w.heap.size) :
    Kg w (wx.setCell ⟨sd, 5, none⟩ (sc kb 0 kp)) n s S c sd eb sb kb kp x1 x2 Lf sbf spf usf 0 K := by
  obtain ⟨n1, n2, n3, n4, n5, n6, n7, n8, n9, n10⟩ := h.st.ne
  refine ⟨?_, ((h.st.side.set 5 _).congr (sideF_set5 _ _ _ _ _ _ _ _ _)), h.st.ent.setOther (fun e => n5 e.symm) _, h.st.srt.setOther (fun e => n6 e.symm) _, h.st.key.setOther (fun e => n7 e.symm) _, h.st.cap, by simpa [World.setCell] using h.st.lt, ⟨n1, n2, n3, n4, n5, n6, n7, n8, n9, n10⟩, fun i hi => by omega, ?_, ⟨by omega, by omega⟩, ?_, by simpa [World.setCell] using h.big⟩
  · rw [World.cell?_setCell_other _ _ _ _ (fun e => n1 (congrArg Addr.block e).symm)]
    exact h.st.clk
  · rw [World.cell?_setCell_other _ _ _ _ (fun e => by have := congrArg Addr.block e; simp at this; omega)]
    exact h.box
  · exact (h.only.mono (by simp)).setCell (.inl (by simp)) _

theorem Kg.same {wy : World} (h : Kg w wx n s S c sd eb sb kb kp x1 x2 Lf sbf spf usf k K') (o : Only [] wx wy) : Kg w wy n s S c sd eb sb kb kp x1 x2 Lf sbf spf usf k K' :=
  ⟨by rw [World.cell?_of_block (a := ⟨c, 4, none⟩) (o.block c h.lt (by simp))]; exact h.clk, o.rw h.side (by simp), o.rw h.ent (by simp), o.rw h.srt (by simp), o.rw h.key (by simp), h.cap, Nat.lt_of_lt_of_le h.lt o.size, h.ne, h.done,
    by rw [World.cell?_of_block (a := ⟨w.heap.size, 0, none⟩) (o.block _ h.big (by simp))]; exact h.box, h.bx, h.only.trans (o.mono (by simp)), Nat.lt_of_lt_of_le h.big o.size⟩

theorem Kg.step (h : Kg w wx n s S c sd eb sb kb kp x1 x2 Lf sbf spf usf k K') :
    Kg w ((wx.setCell ⟨kb, k, none⟩ (.int .u64 ((Lf k : Int) * 3 + 1))).setCell ⟨sd, 5, none⟩ (sc kb (k + 1) kp)) n s S c sd eb sb kb kp x1 x2 Lf sbf spf usf (k + 1) (fun i => if i = k then (Lf k : Int) * 3 + 1 else K' i) := by
  obtain ⟨n1, n2, n3, n4, n5, n6, n7, n8, n9, n10⟩ := h.ne
  refine ⟨?_, (((h.side.setOther n7 _).set 5 _).congr (sideF_set5 _ _ _ _ _ _ _ _ _)), (h.ent.setOther n9 _).setOther (fun e => n5 e.symm) _, (h.srt.setOther n10 _).setOther (fun e => n6 e.symm) _, (((h.key.set k _).congr (fun i hi => ?_)).setOther (fun e => n7 e.symm) _), h.cap, by simpa [World.setCell] using h.lt, ⟨n1, n2, n3, n4, n5, n6, n7, n8, n9, n10⟩, fun i hi => ?_, ?_, h.bx, ?_, by simpa [World.setCell] using h.big⟩
  · rw [World.cell?_setCell_other _ _ _ _ (fun e => n1 (congrArg Addr.block e).symm), World.cell?_setCell_other _ _ _ _ (fun e => n4 (congrArg Addr.block e).symm)]
    exact h.clk
  · by_cases e : i = k
    · simp [e]
    · simp [e]
  · by_cases e : i = k
    · simp [e]
    · simp [e]
      exact h.done i (by omega)
  · rw [World.cell?_setCell_other _ _ _ _ (fun e => h.bx.1 (congrArg Addr.block e).symm), World.cell?_setCell_other _ _ _ _ (fun e => h.bx.2 (congrArg Addr.block e).symm)]
    exact h.box
  · exact (h.only.setCell (.inl (by simp)) _).setCell (.inl (by simp)) _

theorem Kg.fin (h : Kg w wx n s S c sd eb sb kb kp x1 x2 Lf sbf spf usf n K') : St (wx.setCell ⟨sd, 6, none⟩ (.int .i64 (n : Int))) n n S Lf K' c sd eb sbf kb spf kp x1 x2 usf := by
  obtain ⟨n1, n2, n3, n4, n5, n6, n7, n8, n9, n10⟩ := h.ne
  refine ⟨?_, ((h.side.set 6 _).congr (sideF_set6 _ _ _ _ _ _ _ _ _)), h.ent.setOther (fun e => n5 e.symm) _, h.srt.setOther (fun e => n6 e.symm) _, h.key.setOther (fun e => n7 e.symm) _, h.cap, by simpa [World.setCell] using h.lt, ⟨n1, n2, n3, n4, n5, n6, n7, n8, n9, n10⟩⟩
  rw [World.cell?_setCell_other _ _ _ _ (fun e => n1 (congrArg Addr.block e).symm)]
  exact h.clk

theorem Kg.ek (h : Kg w wx n s S c sd eb sb kb kp x1 x2 Lf sbf spf usf k K') {i : Nat} (hi : i < n) : wx.cell? ⟨eb, i * 5 + 1, none⟩ = some (.int .u64 ((i : Int) * 3 + 1)) := by
  rw [h.ent.cell (i := i * 5 + 1) (by omega), eCell_key]
end

theorem kinfo34 : (Yba.prog.info? 34).map (fun i => (i.zero, i.size, i.bytes)) = some (some (.int .u64 0), 1, 8) := by kernel_rfl

theorem spare_one {w : World} {b n k : Nat} {f : Nat → Value} (h : Rw w b n f) (hk : k < n) (o : Obj) {v : Value} : ∀ j, j < [v].length → ((w.alloc o).cell? ⟨b, 0 + k * 1 + j, none⟩).isSome = true ∧ (w.alloc o).frozen? ⟨b, 0 + k * 1 + j, none⟩ = false := by
  intro j hj
  have e : 0 + k * 1 + j = k := by simp at hj; omega
  rw [e, (h.alloc o).cell hk]
  exact ⟨rfl, (h.alloc o).frozen k⟩

theorem setCells_one' (w : World) (b k : Nat) (v : Value) : w.setCells b (0 + k * 1) [v] = w.setCell ⟨b, k, none⟩ v := by
  simp [World.setCells]

/-- 'wpAnyH_take', the slot written out. -/
theorem take_one {P : Program} {ops : Array Oper} {Q : Exit → Act → World → Prop} {md : Region.Mode} {S : World → Prop} (i : Nat) (d : Nat) (v : Value) {oi : Oper} {fuel : Nat} {listed : Array Bool} {a : Act} {w : World} (hi : ops[i]? = some oi)
    (hs : Region.noSelect ops = true) (hf : Region.free md ops listed i = true) (hr : (Region.ready md ops listed).contains i = true) (hd : oi.dst = some d)
    (hQ : ∀ c a w, Q (.panic c) (a.put (some d) v) w → Q (.panic c) a w) (hy : YieldsIf P ops S oi v a) (hS : S w)
    (h : wpAnyH P md ops Q S fuel (listed.setIfInBounds i true) (a.put (some d) v) w) : wpAnyH P md ops Q S (fuel + 1) listed a w :=
  wpAnyH_take hi hs hf hr (by rw [hd]; exact hQ) hy hS (by rw [hd]; exact h)

end Go.Proofs.Ybulkdaoq

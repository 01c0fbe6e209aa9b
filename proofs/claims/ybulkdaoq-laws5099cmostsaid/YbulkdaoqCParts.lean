import Derived.Test.YbulkdaoqKeys
import Derived.Laws.MakeOwn
import Derived.Sort.Walk0
namespace Go.Proofs.Ybulkdaoq
open Go.RowKit Go.Sort Go.Shelf

theorem gtr_dec (x y : ByteArray) : (!(Op.bytesLess x.toList y.toList || x.toList == y.toList)) = decide (y.data.toList < x.data.toList) := by
  rw [Lib.toList_data, Lib.toList_data, bytesLess_eq]
  by_cases h : y.data.toList < x.data.toList
  · have h1 : ¬ x.data.toList < y.data.toList := List.lt_asymm h
    have h2 : x.data ≠ y.data := fun e => by rw [e] at h; exact List.lt_irrefl _ h
    simp [h, h1, h2]
  · by_cases h1 : x.data.toList < y.data.toList
    · simp [h, h1]
    · have h2 : x.data.toList = y.data.toList := List.le_antisymm (List.not_lt.1 h) (List.not_lt.1 h1)
      simp [h2]

/-! ### The entries' row while it is filled -/
def eZero (j : Nat) : Value := if j % 5 = 0 then .string ByteArray.empty else if j % 5 = 4 then .int .i64 0 else .int .u64 0
def fillE (S : Nat → ByteArray) (k j : Nat) : Value := if j < k * 5 then eCell S j else eZero j
abbrev zeroE : Array Value := #[.string ByteArray.empty, .int .u64 0, .int .u64 0, .int .u64 0, .int .i64 0]

theorem Rw.madeE (w : World) (S : Nat → ByteArray) (n : Nat) : Rw (w.alloc (.cells (madeCells zeroE (n * 5)) 70)) w.heap.size (5 * n) (fillE S 0) := by
  refine Rw.lit _ _ _ _ _ (fun i hi => ?_)
  have h1 : i < n * 5 := by omega
  unfold madeCells fillE eZero
  have h2 : i % 5 < 5 := Nat.mod_lt _ (by omega)
  simp only [Array.getElem?_map, Array.getElem?_range, h1]
  obtain ⟨r, hr⟩ : ∃ r, i % 5 = r := ⟨_, rfl⟩
  rw [hr] at h2
  match r, h2, hr with
  | 0, _, hr => simp [hr]
  | 1, _, hr => simp [hr]
  | 2, _, hr => simp [hr]
  | 3, _, hr => simp [hr]
  | 4, _, hr => simp [hr]

theorem Rw.fillStep {w : World} {eb n k : Nat} {S : Nat → ByteArray} (h : Rw w eb (5 * n) (fillE S k)) :
    Rw (((((w.setCell ⟨eb, k * 5, none⟩ (.string (S k))).setCell ⟨eb, k * 5 + 1, none⟩ (.int .u64 ((k : Int) * 3 + 1))).setCell ⟨eb, k * 5 + 2, none⟩ (.int .u64 1)).setCell ⟨eb, k * 5 + 3, none⟩ (.int .u64 0)).setCell ⟨eb, k * 5 + 4, none⟩ (.int .i64 0)) eb (5 * n) (fillE S (k + 1)) := by
  refine (((((h.set _ _).set _ _).set _ _).set _ _).set _ _).congr (fun j _ => ?_)
  by_cases h5 : j < (k + 1) * 5 ∧ ¬ j < k * 5
  · obtain ⟨a1, a2⟩ := h5
    obtain ⟨r, hr, rfl⟩ : ∃ r, r < 5 ∧ j = k * 5 + r := ⟨j - k * 5, by omega, by omega⟩
    have b1 : (k * 5 + r) % 5 = r := by omega
    have b2 : (k * 5 + r) / 5 = k := by omega
    simp only [fillE, a1, if_true, eCell, b1, b2]
    match r, hr with
    | 0, _ => simp
    | 1, _ => simp
    | 2, _ => simp
    | 3, _ => simp
    | 4, _ => simp
  · have c0 : j ≠ k * 5 := by omega
    have c1 : j ≠ k * 5 + 1 := by omega
    have c2 : j ≠ k * 5 + 2 := by omega
    have c3 : j ≠ k * 5 + 3 := by omega
    have c4 : j ≠ k * 5 + 4 := by omega
    simp only [c0, c1, c2, c3, c4, if_false, fillE]
    by_cases d : j < k * 5
    · have d' : j < (k + 1) * 5 := by omega
      simp [d, d']
    · have d' : ¬ j < (k + 1) * 5 := by omega
      simp [d, d']

theorem Rw.filled {w : World} {eb n : Nat} {S : Nat → ByteArray} (h : Rw w eb (5 * n) (fillE S n)) : Rw w eb (5 * n) (eCell S) :=
  h.congr (fun j hj => by unfold fillE; rw [if_pos (by omega)])

theorem fillE_zero (S : Nat → ByteArray) (k r : Nat) (_hr : r < 5) : fillE S k (k * 5 + r) = eZero r := by
  unfold fillE eZero
  rw [if_neg (by omega)]
  have : (k * 5 + r) % 5 = r := by omega
  have : r % 5 = r := by omega
  simp [*]

/-! ### The insertion sort of the first places -/
def swapF (C : Nat → Nat) (a b x : Nat) : Nat := if x = a then C b else if x = b then C a else C x

theorem swap_perm (C : Nat → Nat) (n a b : Nat) (ha : a < n) (hb : b < n) : ((List.range n).map (swapF C a b)).Perm ((List.range n).map C) := by
  have e : (List.range n).map (swapF C a b) = ((List.range n).map (fun x => if x = a then b else if x = b then a else x)).map C := by
    rw [List.map_map]
    refine List.map_congr_left fun x _ => ?_
    unfold swapF
    simp only [Function.comp]
    split
    · rfl
    · split <;> rfl
  rw [e]
  refine List.Perm.map _ ?_
  refine (List.perm_ext_iff_of_nodup ?_ List.nodup_range).2 fun x => ?_
  · unfold List.Nodup
    rw [List.pairwise_map]
    refine List.pairwise_lt_range.imp fun {x y} hxy => ?_
    split <;> split <;> (try split) <;> (try split) <;> omega
  · rw [List.mem_map]
    constructor
    · rintro ⟨y, hy, rfl⟩
      have := List.mem_range.1 hy
      rw [List.mem_range]
      split
      · exact hb
      · split
        · exact ha
        · omega
    · intro hx
      have hx := List.mem_range.1 hx
      refine ⟨if x = a then b else if x = b then a else x, ?_, ?_⟩
      · rw [List.mem_range]
        split
        · exact hb
        · split <;> omega
      · split <;> (try split) <;> (try split) <;> omega

/-- WHILE THE PLACE p IS SUNK INTO THE FIRST i + 1: it stands (in thought) at j. -/
structure Ins (S : Nat → ByteArray) (n i j p : Nat) (C : Nat → Nat) : Prop where
  perm : ((List.range n).map C).Perm (List.range n)
  hj : j ≤ i
  hi : i < n
  at_ : C j = p
  srt : ∀ a b, a < b → b ≤ i → a ≠ j → b ≠ j → ple S (C a) (C b)
  above : ∀ b, j < b → b ≤ i → ple S p (C b)

theorem Ins.start {S : Nat → ByteArray} {n i : Nat} {C : Nat → Nat} (hp : ((List.range n).map C).Perm (List.range n)) (hi : i < n) (hs : ∀ a b, a < b → b < i → ple S (C a) (C b)) : Ins S n i i (C i) C :=
  ⟨hp, Nat.le_refl _, hi, rfl, fun a b hab hb _ hbi => hs a b hab (by omega), fun b h1 h2 => by omega⟩

theorem Ins.step {S : Nat → ByteArray} {n i j p : Nat} {C : Nat → Nat} (h : Ins S n i j p C) (h0 : 0 < j) (hlt : (S p).data.toList < (S (C (j - 1))).data.toList) : Ins S n i (j - 1) p (swapF C (j - 1) j) := by
  have hj := h.hj
  have hi := h.hi
  have ej : swapF C (j - 1) j j = C (j - 1) := by
    unfold swapF
    rw [if_neg (by omega), if_pos rfl]
  have eo : ∀ x, x ≠ j - 1 → x ≠ j → swapF C (j - 1) j x = C x := fun x h1 h2 => by unfold swapF; rw [if_neg h1, if_neg h2]
  refine ⟨(swap_perm C n (j - 1) j (by omega) (by omega)).trans h.perm, by omega, hi, ?_, fun a b hab hb h1 h2 => ?_, fun b h1 h2 => ?_⟩
  · unfold swapF
    rw [if_pos rfl]
    exact h.at_
  · by_cases ea : a = j
    · subst ea
      rw [ej, eo b h2 (by omega)]
      exact h.srt _ _ (by omega) hb (by omega) (by omega)
    · by_cases eb : b = j
      · subst eb
        rw [ej, eo a h1 ea]
        exact h.srt _ _ (by omega) (by omega) (by omega) (by omega)
      · rw [eo a h1 ea, eo b h2 eb]
        exact h.srt _ _ hab hb ea eb
  · by_cases eb : b = j
    · subst eb
      rw [ej]
      exact ple_of_lt hlt
    · rw [eo b (by omega) eb]
      exact h.above b (by omega) h2

theorem Ins.done {S : Nat → ByteArray} {n i j p : Nat} {C : Nat → Nat} (h : Ins S n i j p C) (he : j = 0 ∨ ple S (C (j - 1)) p) : ∀ a b, a < b → b < i + 1 → ple S (C a) (C b) := by
  intro a b hab hb
  by_cases ea : a = j
  · rw [ea, h.at_]
    exact h.above b (by omega) (by omega)
  · by_cases eb : b = j
    · rw [eb, h.at_]
      rcases he with he | he
      · omega
      · by_cases e1 : a = j - 1
        · rw [e1]; exact he
        · exact ple_trans (h.srt a (j - 1) (by omega) (by have := h.hj; omega) ea (by omega)) he
    · exact h.srt a b hab (by omega) ea eb

/-- The places' row while p is sunk: all but cell j hold C. -/
def HoleRow (w : World) (sb n j : Nat) (C : Nat → Nat) : Prop := ∃ x, Rw w sb n (fun i => if i = j then x else .int .i64 (C i : Int))

theorem HoleRow.start {w : World} {sb n : Nat} {C : Nat → Nat} (h : Rw w sb n (fun i => .int .i64 (C i : Int))) (j : Nat) : HoleRow w sb n j C :=
  ⟨.int .i64 (C j : Int), h.congr (fun i _ => by by_cases e : i = j <;> simp [e])⟩

theorem HoleRow.cell {w : World} {sb n j : Nat} {C : Nat → Nat} (h : HoleRow w sb n j C) {i : Nat} (hi : i < n) (hj : i ≠ j) : w.cell? ⟨sb, i, none⟩ = some (.int .i64 (C i : Int)) := by
  obtain ⟨x, hx⟩ := h
  rw [hx.cell hi, if_neg hj]

theorem HoleRow.at_ {w : World} {sb n j : Nat} {C : Nat → Nat} (h : HoleRow w sb n j C) (hj : j < n) : ∃ x, w.cell? ⟨sb, j, none⟩ = some x := by
  obtain ⟨x, hx⟩ := h
  exact ⟨_, hx.cell hj⟩

theorem HoleRow.frozen {w : World} {sb n j : Nat} {C : Nat → Nat} (h : HoleRow w sb n j C) (i : Nat) : w.frozen? ⟨sb, i, none⟩ = false := h.choose_spec.frozen i

theorem HoleRow.step {w : World} {sb n j : Nat} {C : Nat → Nat} (h : HoleRow w sb n j C) (h0 : 0 < j) : HoleRow (w.setCell ⟨sb, j, none⟩ (.int .i64 (C (j - 1) : Int))) sb n (j - 1) (swapF C (j - 1) j) := by
  obtain ⟨x, hx⟩ := h
  refine ⟨.int .i64 (C (j - 1) : Int), (hx.set j _).congr (fun i _ => ?_)⟩
  unfold swapF
  by_cases e1 : i = j
  · subst e1
    rw [if_pos rfl, if_neg (by omega), if_neg (by omega), if_pos rfl]
  · by_cases e2 : i = j - 1
    · subst e2
      simp [e1]
    · simp [e1, e2]

theorem HoleRow.fill {w : World} {sb n j p : Nat} {C : Nat → Nat} (h : HoleRow w sb n j C) (hp : C j = p) : Rw (w.setCell ⟨sb, j, none⟩ (.int .i64 (p : Int))) sb n (fun i => .int .i64 (C i : Int)) := by
  obtain ⟨x, hx⟩ := h
  refine (hx.set j _).congr (fun i _ => ?_)
  by_cases e : i = j
  · simp [e, hp]
  · simp [e]

/-- append of one cell into a row with room. -/
theorem wpList_room_one {P : Program} {w : World} {ops : Array Oper} {rest : List Oper} {o : Oper} {a : Act} {Q : Exit → Act → World → Prop}
    (hg : o.guard = none) (s x : Operand) (t : TypeId) (hop : o.op = Op.call { callee := Callee.builtin Builtin.append, args := #[s, x], argTypes := #[t, t] })
    (e : TypeId) (i : TypeInfo) (h1 : P.underlying t = some (.slice e)) (h2 : P.info? e = some i) (h4 : i.size = 1)
    (b k cap : Nat) (hs : a.eval s = .slice (some ⟨b, 0, none⟩) k cap) (ad : Addr) (c : Nat) (v : Value) (hx : a.eval x = .slice (some ad) 1 c) (hv : ∀ j u, [v][j]? = some u → w.cell? (ad.add j) = some u) (h1c : v.oneCell' = true)
    (hroom : k + 1 ≤ cap) (hc : (w.cell? ⟨b, k, none⟩).isSome = true) (hf : w.frozen? ⟨b, k, none⟩ = false)
    (hK : wpList P ops Q rest (a.put o.dst (.slice (some ⟨b, 0, none⟩) (k + 1) cap)) (w.setCell ⟨b, k, none⟩ v)) :
    wpList P ops Q (o :: rest) a w := by
  refine wpList_plain hg fun K hK' => ?_
  have hrun := run_append_room_cells (P := P) w t o.type e i h1 h2 b 0 k cap ad 1 c [v] (by simp [h4]) hv (by simpa using h1c) hroom
    (fun j hj => by
      have e : 0 + k * i.size + j = k := by rw [h4]; simp at hj; omega
      rw [e]; exact hc)
    (fun j hj => by
      have e : 0 + k * i.size + j = k := by rw [h4]; simp at hj; omega
      rw [e]; exact hf)
  rw [h4, setCells_one'] at hrun
  unfold Oper.wp
  simp [execOp, hop, resolve, invoke, builtin, hs, hx, hrun, Result.andThen]
  exact hK' _ _ hK

theorem built_fin {w5 : World} {n s eb sb kb : Nat} {S : Nat → ByteArray} {L : Nat → Nat} {K : Nat → Int} {x1 x2 : Value} (m1 m2 : Obj) (A B : Array Value) (tA tB : TypeId) (hE : Rw w5 eb (5 * n) (eCell S)) (hS : Rw w5 sb n (fun i => .int .i64 (L i : Int))) (hK : Rw w5 kb n (fun i => .int .u64 (K i)))
    (n1 : eb ≠ sb) (n2 : eb ≠ kb) (n3 : sb ≠ kb) (hA : ∀ i, i < 7 → A[i]? = some (sideF x1 x2 (sc sb n n) (.slice none 0 0) (sc kb s n) eb n s i)) (hB : B[4]? = some (.pointer (some ⟨w5.heap.size + 1 + 1, 0, none⟩))) :
    St ((((w5.alloc m1).alloc m2).alloc (.cells A tA)).alloc (.cells B tB)) n s S L K (w5.heap.size + 1 + 1 + 1) (w5.heap.size + 1 + 1) eb sb kb n n x1 x2 (.slice none 0 0) := by
  have lE := hE.lt
  have lS := hS.lt
  have lK := hK.lt
  have e1 : ((w5.alloc m1).alloc m2).heap.size = w5.heap.size + 1 + 1 := by simp
  have e2 : (((w5.alloc m1).alloc m2).alloc (.cells A tA)).heap.size = w5.heap.size + 1 + 1 + 1 := by simp
  refine ⟨?_, ?_, (((hE.alloc _).alloc _).alloc _).alloc _, (((hS.alloc _).alloc _).alloc _).alloc _, (((hK.alloc _).alloc _).alloc _).alloc _, ⟨Nat.le_refl _, Nat.le_refl _⟩, by simp, by omega, by omega, by omega, by omega, by omega, by omega, by omega, n1, n2, n3⟩
  · rw [← e2]
    have h := Go.Deep.blk_alloc_new (((w5.alloc m1).alloc m2).alloc (.cells A tA)) (.cells B tB)
    simp only [World.cell?, h]
    exact hB
  · have h := (Rw.lit ((w5.alloc m1).alloc m2) A tA 7 _ hA).alloc (.cells B tB)
    rw [e1] at h
    exact h

end Go.Proofs.Ybulkdaoq

import Derived.Test.YbulkdaoqCParts
namespace Go.Proofs.Ybulkdaoq
open Go.RowKit Go.Sort Go.Shelf

/-- What zzs5099cbuild leaves. -/
def BuiltC (w w' : World) (n s : Nat) (S : Nat → ByteArray) (c : Nat) : Prop :=
  ∃ L K sd eb sb kb x1 x2, St w' n s S L K c sd eb sb kb n n x1 x2 (.slice none 0 0) ∧ ((List.range n).map L).Perm (List.range n) ∧ (∀ i j, i < j → j < s → ple S (L i) (L j)) ∧ (∀ i, i < s → K i = (L i : Int) * 3 + 1) ∧
      Below w.heap.size w w' ∧ w.heap.size ≤ sd ∧ w.heap.size ≤ sb ∧ w.heap.size ≤ kb

theorem einfo70 : (Yba.prog.info? 70).map (fun i => (i.zero, i.size, i.bytes)) = some (some (.agg zeroE), 5, 48) := by kernel_rfl

theorem run_make56 (n : Nat) (hn : n ≤ 300) (w : World) : (Instr.makeSlice 56 (.int .i64 (n : Int)) (.int .i64 (n : Int))).run Yba.prog w = .ok (.slice (some ⟨w.heap.size, 0, none⟩) n n) (w.alloc (.cells (madeCells zeroE (n * 5)) 70)) := by
  obtain ⟨i, hi, hz, hs, hb⟩ := info_parts einfo70
  have h := run_make (P := Yba.prog) w 56 70 i _ Yba.underlying56 hi hz .i64 .i64 n n (by omega) (by omega) (by rw [hb]; omega) (by omega)
  have hc : (Value.agg zeroE).cells = zeroE := by kernel_rfl
  rw [hs, hc] at h
  simpa using h

theorem run_make22 (n : Nat) (hn : n ≤ 300) (w : World) : (Instr.makeSlice 22 (.int .i64 0) (.int .i64 (n : Int))).run Yba.prog w = .ok (.slice (some ⟨w.heap.size, 0, none⟩) 0 n) (w.alloc (.cells (madeCells #[.int .u64 0] n) 34)) := by
  obtain ⟨i, hi, hz, hs, hb⟩ := info_parts kinfo34
  have h := run_make (P := Yba.prog) w 22 34 i _ Yba.underlying22 hi hz .i64 .i64 0 n (by omega) (by omega) (by rw [hb]; omega) (by omega)
  rw [hs] at h
  simpa [Value.cells] using h

set_option maxHeartbeats 4000000 in
set_option maxRecDepth 100000 in
theorem cbuild_calls (a : Option Addr) (n cap sel : Nat) (S : Nat → ByteArray) (w : World) (ha : IsRowF Value.string w a n cap S) (hn : n ≤ 300) (hsel : sel ≤ 65535) :
    Calls Yba.prog 11 #[.slice a n cap, .int .u16 (sel : Int)] w fun e w' => ∃ c, e = .returned (.tuple #[.pointer (some ⟨c, 0, none⟩), .int .i64 ((sel % (n + 1) : Nat) : Int)]) ∧ BuiltC w w' n (sel % (n + 1)) S c := by
  have hmk56 := run_make56 n hn
  have hmk29 := run_make_row' (P := Yba.prog) 29 3 (.int .i64 0) 8 Yba.underlying29 cinfo3 rfl .i64 .i64 n (by omega) (by omega)
  have hmk22 := run_make22 n hn
  have hmm := @run_makeMap Yba.prog
  have AA : Aside (IsRowF Value.string w a n cap S) := ha
  clear ha
  have hrem : (sel : Int).tmod ((n : Int) + 1) = ((sel % (n + 1) : Nat) : Int) := by
    rw [Int.tmod_eq_emod_of_nonneg (by omega)]
    simp
  have hsn : sel % (n + 1) < n + 1 := Nat.mod_lt _ (by omega)
  have hnz : ((n : Int) + 1 == 0) = false := by simp; omega
  generalize sel % (n + 1) = s at *
  have zE := Rw.madeE w S n
  go_enter Yba.func11, Yba.ntmps11
  go_wp2_with fail
  go_loopg [9] n (fun g i wr => ∃ k : Nat, k ≤ n ∧ g = n - k ∧ i = .int .i64 k ∧ Rw wr w.heap.size (5 * n) (fillE S k) ∧ Only [] w wr ∧ wr.heap.size = w.heap.size + 1)
  case atStart => exact ⟨0, Nat.zero_le _, rfl, rfl, zE, (Only.refl _ _).alloc _, by simp⟩
  case round =>
    obtain ⟨k, hk, rfl, rfl, hR, hO, hZ⟩ := hrel
    obtain ⟨w1, rfl⟩ : ∃ x, x = wr := ⟨_, rfl⟩
    clear zE hmk56
    by_cases hkn : k < n
    · have hkz : (k : Int) < (n : Int) := by omega
      have hkz0 : (0 : Int) ≤ (k : Int) := by omega
      obtain ⟨b, off, rfl, hbl, hc⟩ := AA.out.2.2 (by omega)
      have cs : w1.cell? ⟨b, off + k, none⟩ = some (.string (S k)) := by
        rw [World.cell?_of_block (a := ⟨b, off + k, none⟩) (hO.block b hbl (by simp))]
        exact hc k hkn
      have c0 : w1.cell? ⟨w.heap.size, k * 5, none⟩ = some (.string ByteArray.empty) := (hR.cell (i := k * 5 + 0) (by omega)).trans (by rw [fillE_zero S k 0 (by omega)]; rfl)
      have c1 : w1.cell? ⟨w.heap.size, k * 5 + 1, none⟩ = some (.int .u64 0) := (hR.cell (i := k * 5 + 1) (by omega)).trans (by rw [fillE_zero S k 1 (by omega)]; rfl)
      have c2 : w1.cell? ⟨w.heap.size, k * 5 + 2, none⟩ = some (.int .u64 0) := (hR.cell (i := k * 5 + 2) (by omega)).trans (by rw [fillE_zero S k 2 (by omega)]; rfl)
      have c3 : w1.cell? ⟨w.heap.size, k * 5 + 3, none⟩ = some (.int .u64 0) := (hR.cell (i := k * 5 + 3) (by omega)).trans (by rw [fillE_zero S k 3 (by omega)]; rfl)
      have c4 : w1.cell? ⟨w.heap.size, k * 5 + 4, none⟩ = some (.int .i64 0) := (hR.cell (i := k * 5 + 4) (by omega)).trans (by rw [fillE_zero S k 4 (by omega)]; rfl)
      have z0 := hR.frozen (k * 5)
      have z1 := hR.frozen (k * 5 + 1)
      have z2 := hR.frozen (k * 5 + 2)
      have z3 := hR.frozen (k * 5 + 3)
      have z4 := hR.frozen (k * 5 + 4)
      have AR : Aside (Rw w1 w.heap.size (5 * n) (fillE S k) ∧ Only [] w w1 ∧ w1.heap.size = w.heap.size + 1) := ⟨hR, hO, hZ⟩
      clear hR hO hZ hc
      go_wp2
      go_roundg (n - (k + 1))
      case measure => go_light; omega
      case rel =>
        go_light
        exact ⟨k + 1, by omega, rfl, by simp, AR.out.1.fillStep, ((((AR.out.2.1.setCell (.inr (Nat.le_refl _)) _).setCell (.inr (Nat.le_refl _)) _).setCell (.inr (Nat.le_refl _)) _).setCell (.inr (Nat.le_refl _)) _).setCell (.inr (Nat.le_refl _)) _, by simpa [World.setCell] using AR.out.2.2⟩
    · have hkz : ¬ (k : Int) < (n : Int) := by omega
      obtain rfl : k = n := by omega
      have hE := hR.filled
      have AE : Aside (Rw w1 w.heap.size (5 * k) (eCell S) ∧ Only [] w w1 ∧ w1.heap.size = w.heap.size + 1) := ⟨hE, hO, hZ⟩
      clear hR hE hO hZ
      have hT : Rw (w1.alloc (.cells (madeCells #[.int .i64 0] k) 3)) w1.heap.size k (fun i => .int .i64 ((if i < 0 then i else 0 : Nat) : Int)) := (Rw.made w1 (.int .i64 0) k 3).congr (fun i _ => by simp)
      have AT : Aside (Rw (w1.alloc (.cells (madeCells #[.int .i64 0] k) 3)) w1.heap.size k (fun i => .int .i64 ((if i < 0 then i else 0 : Nat) : Int))) := hT
      clear hT
      go_wp2_with fail
      clear hmk29
      go_loopg [48] k (fun g i wr => ∃ m : Nat, m ≤ k ∧ g = k - m ∧ i = .int .i64 m ∧ Rw wr w1.heap.size k (fun i => .int .i64 ((if i < m then i else 0 : Nat) : Int)) ∧ Only [] w1 wr ∧ w1.heap.size < wr.heap.size)
      case atStart => exact ⟨0, Nat.zero_le _, rfl, rfl, AT.out, (Only.refl _ _).alloc _, by simp⟩
      case round =>
        obtain ⟨m, hm, rfl, rfl, hR, hO, hZ⟩ := hrel
        obtain ⟨w2, rfl⟩ : ∃ x, x = wr := ⟨_, rfl⟩
        by_cases hmn : m < k
        · have hmz : (m : Int) < (k : Int) := by omega
          have hmz0 : (0 : Int) ≤ (m : Int) := by omega
          have c0 := hR.cell hmn
          have z0 := hR.frozen m
          have AR : Aside (Rw w2 w1.heap.size k (fun i => .int .i64 ((if i < m then i else 0 : Nat) : Int)) ∧ Only [] w1 w2 ∧ w1.heap.size < w2.heap.size) := ⟨hR, hO, hZ⟩
          clear hR hO hZ
          go_wp2
          go_roundg (k - (m + 1))
          case measure => go_light; omega
          case rel =>
            go_light
            refine ⟨m + 1, by omega, rfl, by simp, (AR.out.1.set m _).congr (fun i _ => ?_), AR.out.2.1.setCell (.inr (Nat.le_refl _)) _, by simpa [World.setCell] using AR.out.2.2⟩
            by_cases e : i = m
            · simp [e]
            · by_cases e1 : i < m
              · have e2 : i < m + 1 := by omega
                simp [e, e1, e2]
              · have e2 : ¬ i < m + 1 := by omega
                simp [e, e1, e2]
        · have hmz : ¬ (m : Int) < (k : Int) := by omega
          obtain rfl : m = k := by omega
          have hR0 : Rw w2 w1.heap.size m (fun i => .int .i64 ((i : Nat) : Int)) := hR.congr (fun i hi => by simp [hi])
          have hz2 : w1.heap.size < w2.heap.size := hZ
          have hW : Only [] w w2 := AE.out.2.1.trans hO
          have hE2 := hO.rw AE.out.1 (by simp)
          have hsz1 := AE.out.2.2
          rw [hsz1] at hR0 hz2
          have A2 : Aside (Rw w2 (w.heap.size + 1) m (fun i => .int .i64 ((i : Nat) : Int)) ∧ Only [] w w2 ∧ Rw w2 w.heap.size (5 * m) (eCell S)) := ⟨hR0, hW, hE2⟩
          clear hR hR0 hO hZ hW hE2 AT AE
          go_wp2_with fail
          clear hsz1
          go_loopg [12] (s - 1) (fun g i wr => ∃ (t : Nat) (C : Nat → Nat), 1 ≤ t ∧ g = s - t ∧ i = .int .i64 t ∧ Rw wr (w.heap.size + 1) m (fun i => .int .i64 (C i : Int)) ∧ ((List.range m).map C).Perm (List.range m) ∧ (∀ a b, a < b → b < t → ple S (C a) (C b)) ∧ Only [] w wr ∧ Rw wr w.heap.size (5 * m) (eCell S) ∧ w.heap.size + 1 < wr.heap.size)
          case atStart => exact ⟨1, fun i => i, Nat.le_refl _, rfl, rfl, A2.out.1, by simp, fun a b h1 h2 => by omega, A2.out.2.1, A2.out.2.2, hz2⟩
          case round =>
            obtain ⟨t, C, ht1, rfl, rfl, hR, hP, hS, hO, hE, hZ⟩ := hrel
            obtain ⟨w3, rfl⟩ : ∃ x, x = wr := ⟨_, rfl⟩
            clear A2 hz2
            by_cases hts : t < s
            · have htz : (t : Int) < (s : Int) := by omega
              have htm : (t : Int) < (m : Int) := by omega
              have htn : t < m := by omega
              have htz0 : (0 : Int) ≤ (t : Int) := by omega
              have c0 := hR.cell htn
              have hIns := Ins.start hP htn hS
              have hHole := HoleRow.start hR t
              have hCt := perm_lt hP t htn
              have A3 : Aside (Ins S m t t (C t) C ∧ HoleRow w3 (w.heap.size + 1) m t C ∧ Only [] w w3 ∧ Rw w3 w.heap.size (5 * m) (eCell S) ∧ w.heap.size + 1 < w3.heap.size) := ⟨hIns, hHole, hO, hE, hZ⟩
              clear hR hP hS hO hE hZ hIns hHole
              go_wp2_with fail
              clear c0
              go_loopg [14] t (fun g v wr => ∃ (j : Nat) (D : Nat → Nat), j = g ∧ v = .int .i64 j ∧ Ins S m t j (C t) D ∧ HoleRow wr (w.heap.size + 1) m j D ∧ Only [] w wr ∧ Rw wr w.heap.size (5 * m) (eCell S) ∧ w.heap.size + 1 < wr.heap.size)
              case atStart => exact ⟨t, C, rfl, rfl, A3.out⟩
              case round =>
                obtain ⟨j, D, rfl, rfl, hI, hH, hO, hE, hZ⟩ := hrel
                obtain ⟨w4, rfl⟩ : ∃ x, x = wr := ⟨_, rfl⟩
                clear A3
                have hji := hI.hj
                have hjm : j < m := by omega
                have hjz : (j : Int) < (m : Int) := by omega
                have hjz0 : (0 : Int) ≤ (j : Int) := by omega
                obtain ⟨xj, cj⟩ := hH.at_ hjm
                have zj := hH.frozen j
                have A4 : Aside (Ins S m t j (C t) D ∧ HoleRow w4 (w.heap.size + 1) m j D ∧ Only [] w w4 ∧ Rw w4 w.heap.size (5 * m) (eCell S) ∧ w.heap.size + 1 < w4.heap.size) := ⟨hI, hH, hO, hE, hZ⟩
                clear hI hH hO hE hZ
                by_cases hj0 : j = 0
                · have hd1 : ¬ (0 : Int) < (j : Int) := by omega
                  have hd2 : decide ((0 : Int) < (j : Int)) = false := by simpa using hd1
                  have hd3 : decide (0 < j) = false := by simp; omega
                  have hd4 : ¬ 0 < j := by omega
                  have Aj : Aside (j = 0) := hj0
                  clear hj0
                  go_wp2_with fail
                  go_quiet (fail)
                  go_wp2
                  go_roundg (s - (t + 1))
                  case measure => go_light; omega
                  case rel =>
                    go_light
                    exact ⟨t + 1, D, by omega, rfl, by simp, (A4.out.2.1.fill A4.out.1.at_).drewN nq, A4.out.1.perm, A4.out.1.done (.inl Aj.out), (A4.out.2.2.1.setCell (.inr (by simp)) _).drewN nq, (A4.out.2.2.2.1.setOther (by simp) _).drewN nq, by simpa [World.setCell] using A4.out.2.2.2.2⟩
                · have hd1 : (0 : Int) < (j : Int) := by omega
                  have hd4 : 0 < j := by omega
                  have hj1 : (0 : Int) ≤ (j : Int) - 1 := by omega
                  have hj2 : (j : Int) - 1 < (m : Int) := by omega
                  have hj3 : ((j : Int) - 1).toNat = j - 1 := by omega
                  have cD := A4.out.2.1.cell (i := j - 1) (by omega) (by omega)
                  have hDl := perm_lt A4.out.1.perm (j - 1) (by omega)
                  have hDz : (D (j - 1) : Int) < (m : Int) := by omega
                  have hDz0 : (0 : Int) ≤ (D (j - 1) : Int) := by omega
                  have hCz : (C t : Int) < (m : Int) := by omega
                  have hCz0 : (0 : Int) ≤ (C t : Int) := by omega
                  have s1 : w4.cell? ⟨w.heap.size, D (j - 1) * 5, none⟩ = some (.string (S (D (j - 1)))) := by rw [A4.out.2.2.2.1.cell (i := D (j - 1) * 5) (by omega), eCell_id]
                  have s2 : w4.cell? ⟨w.heap.size, C t * 5, none⟩ = some (.string (S (C t))) := by rw [A4.out.2.2.2.1.cell (i := C t * 5) (by omega), eCell_id]
                  clear hj0
                  by_cases hlt : (S (C t)).data.toList < (S (D (j - 1))).data.toList
                  · have hg := gtr_dec (S (D (j - 1))) (S (C t))
                    rw [decide_eq_true hlt] at hg
                    have hg1 : Op.bytesLess (S (D (j - 1))).toList (S (C t)).toList = false := by
                      cases e : Op.bytesLess (S (D (j - 1))).toList (S (C t)).toList
                      · rfl
                      · rw [e] at hg; simp at hg
                    have hg2 : ((S (D (j - 1))).toList == (S (C t)).toList) = false := by
                      cases e : ((S (D (j - 1))).toList == (S (C t)).toList)
                      · rfl
                      · rw [e] at hg; simp at hg
                    have Alt : Aside ((S (C t)).data.toList < (S (D (j - 1))).data.toList) := hlt
                    clear hlt hg
                    go_wp2_with fail
                    go_quiet (fail)
                    go_wp2
                    go_roundg (j - 1)
                    case measure => go_light; omega
                    case rel =>
                      go_light
                      exact ⟨j - 1, swapF D (j - 1) j, rfl, by rw [Int.ofNat_sub hd4]; rfl, A4.out.1.step hd4 Alt.out, (show HoleRow (w4.drewN nq) (w.heap.size + 1) m j D from A4.out.2.1).step hd4, (A4.out.2.2.1.drewN nq).setCell (.inr (by simp)) _, (A4.out.2.2.2.1.drewN nq).setOther (by simp) _, by simpa [World.setCell] using A4.out.2.2.2.2⟩
                  · have hg := gtr_dec (S (D (j - 1))) (S (C t))
                    rw [decide_eq_false hlt] at hg
                    have Alt : Aside (¬ (S (C t)).data.toList < (S (D (j - 1))).data.toList) := hlt
                    have hgg : Op.bytesLess (S (D (j - 1))).toList (S (C t)).toList = true ∨ (Op.bytesLess (S (D (j - 1))).toList (S (C t)).toList = false ∧ ((S (D (j - 1))).toList == (S (C t)).toList) = true) := by
                      cases e : Op.bytesLess (S (D (j - 1))).toList (S (C t)).toList
                      · rw [e] at hg
                        exact .inr ⟨rfl, by simpa using hg⟩
                      · exact .inl rfl
                    clear hlt hg
                    rcases hgg with hg1 | ⟨hg1, hg2⟩
                    all_goals
                      go_wp2_with fail
                      go_quiet (fail)
                      go_wp2
                      go_roundg (s - (t + 1))
                      case measure => go_light; omega
                      case rel =>
                        go_light
                        exact ⟨t + 1, D, by omega, rfl, by simp, (A4.out.2.1.fill A4.out.1.at_).drewN nq, A4.out.1.perm, A4.out.1.done (.inr Alt.out), (A4.out.2.2.1.setCell (.inr (by simp)) _).drewN nq, (A4.out.2.2.2.1.setOther (by simp) _).drewN nq, by simpa [World.setCell] using A4.out.2.2.2.2⟩
            · have htz : ¬ (t : Int) < (s : Int) := by omega
              have A5 : Aside (Rw w3 (w.heap.size + 1) m (fun i => .int .i64 (C i : Int)) ∧ ((List.range m).map C).Perm (List.range m) ∧ (∀ a b, a < b → b < s → ple S (C a) (C b)) ∧ Only [] w w3 ∧ Rw w3 w.heap.size (5 * m) (eCell S) ∧ w.heap.size + 1 < w3.heap.size) := ⟨hR, hP, fun a b h1 h2 => hS a b h1 (by omega), hO, hE, hZ⟩
              clear hR hP hS hO hE hZ
              obtain ⟨i0, hi0, hz0, hz1, hz2⟩ := info_parts kinfo34
              go_wp2_with fail
              clear hmk22
              go_loopg [15, 16] s (fun g v15 v16 wr => ∃ (k : Nat) (K : Nat → Int), k ≤ s ∧ g = s - k ∧ v16 = .int .i64 k ∧ v15 = sc w3.heap.size k m ∧ Rw wr w3.heap.size m (fun i => .int .u64 (K i)) ∧ (∀ i, i < k → K i = (C i : Int) * 3 + 1) ∧ Only [] w3 wr ∧ w3.heap.size < wr.heap.size)
              case atStart => exact ⟨0, fun _ => 0, Nat.zero_le _, rfl, rfl, rfl, Rw.made _ _ _ _, fun i hi => by omega, (Only.refl _ _).alloc _, by simp⟩
              case round =>
                obtain ⟨k, K, hk, rfl, rfl, rfl, hR, hK, hO, hZ⟩ := hrel
                obtain ⟨w5, rfl⟩ : ∃ x, x = wr := ⟨_, rfl⟩
                have A6 : Aside (Rw w5 w3.heap.size m (fun i => .int .u64 (K i)) ∧ (∀ i, i < k → K i = (C i : Int) * 3 + 1) ∧ Only [] w3 w5 ∧ w3.heap.size < w5.heap.size) := ⟨hR, hK, hO, hZ⟩
                by_cases hks : k < s
                · have hkz : (k : Int) < (s : Int) := by omega
                  have hkm : (k : Int) < (m : Int) := by omega
                  have hkn : k < m := by omega
                  have hkz0 : (0 : Int) ≤ (k : Int) := by omega
                  have c1 := (hO.rw A5.out.1 (by simp)).cell hkn
                  have hCl := perm_lt A5.out.2.1 k hkn
                  have hCz : (C k : Int) < (m : Int) := by omega
                  have hCz0 : (0 : Int) ≤ (C k : Int) := by omega
                  have c2 : w5.cell? ⟨w.heap.size, C k * 5 + 1, none⟩ = some (.int .u64 ((C k : Int) * 3 + 1)) := by rw [(hO.rw A5.out.2.2.2.2.1 (by simp)).cell (i := C k * 5 + 1) (by omega), eCell_key]
                  clear hR hK hO hZ
                  go_wp2_with ((at_builtin; refine wpList_room_one rfl (.tmp 106) (.tmp 115) 22 rfl 34 i0 Yba.underlying22 hi0 hz1 w3.heap.size k m rfl ⟨w5.heap.size, 0, none⟩ 1 (.int .u64 ((C k : Int) * 3 + 1)) rfl (World.news_of_block (cs := #[.int .u64 ((C k : Int) * 3 + 1)]) (t := 34) (fr := (0, 0)) (heap_alloc_new w5 _)) rfl (by omega) (by rw [(A6.out.1.alloc _).cell (by omega)]; rfl) ((A6.out.1.alloc _).frozen k) ?_))
                  go_roundg (s - (k + 1))
                  case measure => go_light; omega
                  case rel =>
                    go_light
                    refine ⟨k + 1, fun i => if i = k then (C k : Int) * 3 + 1 else K i, by omega, rfl, by simp, rfl, ((A6.out.1.alloc _).set k _).congr (fun i _ => ?_), fun i hi => ?_, (A6.out.2.2.1.alloc _).setCell (.inr (Nat.le_refl _)) _, ?_⟩
                    · by_cases e : i = k <;> simp [e]
                    · by_cases e : i = k
                      · simp [e]
                      · simp [e]
                        exact A6.out.2.1 i (by omega)
                    · have := A6.out.2.2.2
                      simp [World.setCell]
                      omega
                · have hkz : ¬ (k : Int) < (s : Int) := by omega
                  obtain rfl : k = s := by omega
                  clear hR hK hO hZ
                  go_wp2
                  go_ret2
                  have l3 := A5.out.2.2.2.2.2
                  have o5 := A6.out.2.2.1
                  refine ⟨_, rfl, C, K, _, _, _, _, .map (some (w5.heap.size + 1)), .int .i64 (-1), built_fin _ _ _ _ _ _ (o5.rw A5.out.2.2.2.2.1 (by simp)) (o5.rw A5.out.1 (by simp)) A6.out.1 (by omega) (by omega) (by omega) (fun i hi => ?_) rfl, A5.out.2.1, A5.out.2.2.1, A6.out.2.1, ?_, ?_, by omega, by omega⟩
                  · match i, hi with
                    | 0, _ => rfl
                    | 1, _ => rfl
                    | 2, _ => rfl
                    | 3, _ => rfl
                    | 4, _ => rfl
                    | 5, _ => rfl
                    | 6, _ => rfl
                  · exact (((((A5.out.2.2.2.1.trans o5).alloc _).alloc _).alloc _).alloc _).toBelow (Nat.le_refl _) (by simp)
                  · have := o5.size
                    omega
end Go.Proofs.Ybulkdaoq

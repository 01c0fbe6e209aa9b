import Derived.Test.YbulkdaoqHoldAny
namespace Go.Proofs.Ybulkdaoq
open Go.RowKit

set_option maxHeartbeats 8000000 in
set_option maxRecDepth 100000 in
theorem holdlaw_walk (a0 a1 a2 : Option Addr) (l0 c0 l1 c1 l2 c2 : Nat) (f0 f2 : Nat → Int) (f1 : Nat → Bool) (m1 m2 : Nat) (w : World)
    (h0 : IsRowF (Value.int .u64) w a0 l0 c0 f0) (h1 : IsRowF Value.bool w a1 l1 c1 f1) (h2 : IsRowF (Value.int .u64) w a2 l2 c2 f2) (k1 : m1 ≤ 255) (k2 : m2 ≤ 255) :
    Calls Yba.prog 3 #[.slice a0 l0 c0, .slice a1 l1 c1, .slice a2 l2 c2, .int .u8 (m1 : Int), .int .u8 (m2 : Int)] w fun e w' => e = .returned (.bool true) ∧ Below w.heap.size w w' := by
  obtain ⟨N, hN⟩ : ∃ N, N = m1 % 6 + 1 := ⟨_, rfl⟩
  have hNz : (m1 : Int) % 6 + 1 = (N : Int) := by omega
  have hN1 : 1 ≤ N := by omega
  have hN6 : N ≤ 6 := by omega
  obtain ⟨J, hJ⟩ : ∃ J, J = m2 % N := ⟨_, rfl⟩
  have hJz : (m2 : Int) % (N : Int) = (J : Int) := by rw [hJ]; simp
  have hJN : J < N := by rw [hJ]; exact Nat.mod_lt _ (by omega)
  have hj0 : (0 : Int) ≤ (J : Int) := by omega
  have hN0 : (0 : Int) < (N : Int) := by omega
  have hN0n : 0 < N := by omega
  have hj1 : (J : Int) < (N : Int) := by omega
  have hm : J * N ≤ 36 := Nat.mul_le_mul (by omega : J ≤ 6) hN6
  have hmz0 : (0 : Int) ≤ (J : Int) * (N : Int) := Int.mul_nonneg (by omega) (by omega)
  have hmz : (J : Int) * (N : Int) ≤ 36 := by have : ((J * N : Nat) : Int) = (J : Int) * (N : Int) := by simp
                                              omega
  have A0 : Aside (IsRowF (Value.int .u64) w a0 l0 c0 f0) := h0
  have A2 : Aside (IsRowF (Value.int .u64) w a2 l2 c2 f2) := h2
  have hbuild := build_q a0 a1 a2 l0 c0 l1 c1 l2 c2 f0 f2 f1 N w h0 h1 h2 hN6
  have hmk28 := run_make_row' (P := Yba.prog) 28 22 (.slice none 0 0) 24 Yba.underlying28 info22 rfl .i64 .i64 N (by omega) (by omega)
  have hmk29 := run_make_row' (P := Yba.prog) 29 3 (.int .i64 0) 8 Yba.underlying29 info3 rfl .i64 .i64 N (by omega) (by omega)
  have hpn := neq_same
  have q22 : ∀ (w : World) (a : Option Addr) (n c n' c' : Nat), (binOp .eql 22 (.slice a n c) (.slice none n' c')).run Yba.prog w = .ok (.bool a.isNone) w := fun w a n c n' c' => Lib.run_eql_slice_nil w _ _ a n c n' c' Yba.underlying22
  generalize maskv f1 l1 = M at hbuild
  generalize hVd : V2 f0 l0 N = V at hbuild
  generalize hLd : V2 f2 l2 N = LV at hbuild
  have AV : Aside (V2 f0 l0 N = V ∧ V2 f2 l2 N = LV) := ⟨hVd, hLd⟩
  clear hN hJ h0 h1 h2 hVd hLd
  go_enter Yba.func3, Yba.ntmps3
  go_wp2_with fail
  refine hbuild.mono ?_
  rintro e w1 ⟨q, kb, keb, lb, leb, kv, lr, rfl, hQ, hrk, hrl, hbel, hbase⟩
  clear hbuild
  rw [hJz]
  obtain ⟨wasNil, hwn⟩ : ∃ b : Bool, b = !M J := ⟨_, rfl⟩
  have hQ : QS w1 N q kb keb lb leb kv (fun j => (cnt (V j) N : Int)) (lvOf M lr N) (leOf M) := hQ
  have heq := lvOf_eql M lr N J wasNil hwn
  have hgu := lvOf_guard M lr N J
  have AL : Aside (wasNil = !M J) := hwn
  clear hwn
  obtain ⟨hVJ, hk1, hk2⟩ := hrk J hJN
  obtain ⟨b1, b2, b3, b4, b5, b6, b7, b8⟩ := hQ.ne
  have f9 := hQ.fke
  have f10 := hQ.fl
  have f11 := hQ.fle
  have cke := hQ.ke.cell hJN
  have cl := hQ.l.cell hJN
  have A1 : Aside (QS w1 N q kb keb lb leb kv (fun j => (cnt (V j) N : Int)) (lvOf M lr N) (leOf M) ∧ _) := And.intro hQ (And.intro hrk (And.intro hrl hbel))
  have hsz22 : (Yba.prog.info? 22).map (·.size) = some 1 := by kernel_rfl
  have hsz3 : (Yba.prog.info? 3).map (·.size) = some 1 := by kernel_rfl
  clear hQ hrk hrl hbel
  obtain ⟨w2, hrun2, hold2, ho2⟩ := run_copy_rw (P := Yba.prog) (w1.alloc (.cells (madeCells #[.slice none 0 0] N) 22)) 28 28 3 22 Yba.underlying28 hsz22 w1.heap.size lb N N N (lvOf M lr N) _ (Rw.made w1 _ N 22) (A1.out.1.l.alloc _) (fun i _ => lvOf_one M lr N i)
  have ho2 := ho2.behind
  have hQ2 := A1.out.1.same ho2
  obtain ⟨w3, hrun3, hold3, ho3⟩ := run_copy_rw (P := Yba.prog) (w2.alloc (.cells (madeCells #[.int .i64 0] N) 3)) 29 29 3 3 Yba.underlying29 hsz3 w2.heap.size leb N N N (fun j => .int .i64 (leOf M j)) _ (Rw.made w2 _ N 3) (hQ2.le.alloc _) (fun i _ => rfl)
  have ho3 := ho3.behind
  have hQ3 := hQ2.same ho3
  have hold2' := ho3.rw hold2 (by simp)
  have ho13 : Only [] w1 w3 := ho2.trans ho3
  have g11 := hQ2.fle
  have g9 := hQ3.fke
  have gke := hQ3.ke.cell hJN
  have hV3 := ho13.rw hVJ (by simp)
  have hh := hold_any N q kb keb lb leb kv _ _ _ (V J) (LV J) J (lr J) wasNil w3 hQ3 (by omega) hJN (lvOf_at M lr N J wasNil AL.out) hV3 (fun hf => by
    obtain ⟨r1, r2, r3, r4⟩ := A1.out.2.2.1 J hJN (by have := AL.out; rw [hf] at this; simpa using this.symm)
    exact ⟨ho13.rw r1 (by simp), r2, r3, r4⟩)
  have hz12 : w1.heap.size < w2.heap.size := by have := ho2.size; have := hold2.lt; omega
  have hz23 : w2.heap.size < w3.heap.size := hold3.lt
  have A3 : Aside _ := And.intro hold2' (And.intro hold3 ho13)
  have hq2 : q < w2.heap.size := by omega
  clear hQ2 hQ3 hold2 hold2' hold3 ho2 ho3 ho13 hV3
  go_wp2_with fail
  refine hh.mono ?_
  rintro e w4 ⟨g, cap, rfl, hg4, hQ4, ho4, hlg, hgq, hkg, hset, hfresh⟩
  clear hh hrun2 hrun3 g11 g9 gke f9 f10 f11 cke cl heq hgu hmk28 hmk29 hsz22 hsz3
  have CV : Aside (∀ (z : Int) (k x : Nat) (W : World), z = (k : Int) * (N : Int) + (x : Int) → k * N + x ≤ 1000 → Below w.heap.size w W → Calls Yba.prog 9 #[.slice a0 l0 c0, .int .i64 z] W fun e w' => e = .returned (.int .u64 (V k x)) ∧ w' = W) := fun z k x W hz hi hb => by
    rw [← AV.out.1]; exact at_V2 a0 l0 c0 f0 z N k x w W A0.out hz hi hb
  have CL : Aside (∀ (z : Int) (k x : Nat) (W : World), z = (k : Int) * (N : Int) + (x : Int) → k * N + x ≤ 1000 → Below w.heap.size w W → Calls Yba.prog 9 #[.slice a2 l2 c2, .int .i64 z] W fun e w' => e = .returned (.int .u64 (LV k x)) ∧ w' = W) := fun z k x W hz hi hb => by
    rw [← AV.out.2]; exact at_V2 a2 l2 c2 f2 z N k x w W A2.out hz hi hb
  have ro4 := ho4.rw A3.out.1 (by simp; omega)
  have re4 := ho4.rw A3.out.2.1 (by simp; omega)
  have rk4 : ∀ j, j < N → Rw w4 (kv j) N (fun x => .int .u64 (V j x)) := fun j hj => ho4.rw (A3.out.2.2.rw (A1.out.2.1 j hj).1 (by simp)) (by have := (A1.out.2.1 j hj).2.1; simp; omega)
  have bel4 : Below w.heap.size w w4 := (A1.out.2.2.2.trans (A3.out.2.2.toBelow (by have := A1.out.2.2.2.size; omega) (by simp))).trans (ho4.toBelow (by have := A1.out.2.2.2.size; omega) (by simp; omega))
  have hgl := hg4.lt
  have hoJ : wasNil = false → w4.cell? ⟨w1.heap.size, J, none⟩ = some (sl g N N) := fun hf => by
    have h1 := ro4.cell hJN
    rw [lvOf_at M lr N J wasNil AL.out, hf] at h1
    rw [(hset hf).1]
    simpa using h1
  have e4 := hQ4.fk
  have e10 := hQ4.fl
  have e11 := hQ4.fle
  have clJ := hQ4.l.cell hJN
  simp only [if_true] at clJ
  have A4 : Aside _ := And.intro hg4 (And.intro hQ4 (And.intro ro4 (And.intro re4 (And.intro rk4 bel4))))
  clear hg4 hQ4 ho4 ro4 re4 rk4 bel4 hset hfresh A1 A3 hVJ
  cases wasNil
  all_goals
    try have co := hoJ rfl
    clear hoJ
    go_wp2_with fail
    go_loopg [19] N (fun gg i wr => ∃ x : Nat, x ≤ N ∧ gg = N - x ∧ i = .int .i64 x ∧ w4 = wr)
    case atStart => exact ⟨0, Nat.zero_le _, rfl, rfl, rfl⟩
    case round =>
      obtain ⟨x, hx, rfl, rfl, rfl⟩ := hrel
      by_cases hxN : x < N
      · have hxz : (x : Int) < (N : Int) := by omega
        have hxz0 : (0 : Int) ≤ (x : Int) := by omega
        have cg := A4.out.1.cell hxN
        simp only [Bool.false_eq_true, if_false, if_true] at cg
        have hmx : J * N + x ≤ 1000 := by omega
        go_wp2_with (first
          | (go_at_call_of 9 (Value.slice a2 l2 c2); refine (CL.out _ J x _ rfl hmx A4.out.2.2.2.2.2).mono ?_; rintro e w' ⟨rfl, rfl⟩)
          | (go_at_call_of 9 (Value.slice a0 l0 c0); refine (CV.out _ J x _ rfl hmx A4.out.2.2.2.2.2).mono ?_; rintro e w' ⟨rfl, rfl⟩))
        go_roundg (N - (x + 1))
        case measure => go_light; omega
        case rel => go_light; exact ⟨x + 1, by omega, rfl, by simp, rfl⟩
      · have hxz : ¬ (x : Int) < (N : Int) := by omega
        go_wp2_with fail
        go_quiet (fail)
        go_wp2_with fail
        go_quiet (fail)
        go_wp2_with fail
        go_loopg [21] N (fun gg i wr => ∃ k : Nat, k ≤ N ∧ gg = N - k ∧ i = .int .i64 k ∧ ∃ nq, wr = w4.drewN nq)
        case atStart => exact ⟨0, Nat.zero_le _, rfl, rfl, _, World.drewN_drewN _ _ _⟩
        case round =>
          obtain ⟨k, hk, rfl, rfl, nq, rfl⟩ := hrel
          by_cases hkN : k < N
          · have hkz : (k : Int) < (N : Int) := by omega
            have hkz0 : (0 : Int) ≤ (k : Int) := by omega
            have ce := A4.out.2.2.2.1.cell hkN
            have cle := A4.out.2.1.le.cell hkN
            by_cases hkJ : k = J
            · have hb : ((k : Int) == (J : Int)) = true := by simp; omega
              have hp : (k = J) = True := eq_true hkJ
              simp only [hp, true_and, Bool.false_eq_true, if_false, if_true] at cle
              clear hkJ hp
              go_wp2
              go_roundg (N - (k + 1))
              case measure => go_light; omega
              case rel => go_light; exact ⟨k + 1, by omega, rfl, by simp, _, rfl⟩
            · have hb : ((k : Int) == (J : Int)) = false := by simp; omega
              simp only [hkJ, false_and, if_false] at cle
              have cl1 := A4.out.2.1.l.cell hkN
              simp only [hkJ, if_false] at cl1
              have co1 := A4.out.2.2.1.cell hkN
              cases hMk : M k
              · rw [lvOf_nil hMk] at cl1 co1
                clear hMk hkJ
                go_wp2_with fail
                go_quiet (fail)
                go_wp2_with fail
                go_quiet (fail)
                go_wp2
                go_roundg (N - (k + 1))
                case measure => go_light; omega
                case rel => go_light; exact ⟨k + 1, by omega, rfl, by simp, _, rfl⟩
              · rw [lvOf_set hMk] at cl1 co1
                clear hMk hkJ
                go_wp2_with fail
                go_quiet (fail)
                go_wp2_with fail
                go_quiet (fail)
                go_wp2
                go_roundg (N - (k + 1))
                case measure => go_light; omega
                case rel => go_light; exact ⟨k + 1, by omega, rfl, by simp, _, rfl⟩
          · have hkz : ¬ (k : Int) < (N : Int) := by omega
            go_wp2_with fail
            go_loopg [23] N (fun gg i wr => ∃ k : Nat, k ≤ N ∧ gg = N - k ∧ i = .int .i64 k ∧ ∃ nq, wr = w4.drewN nq)
            case atStart => exact ⟨0, Nat.zero_le _, rfl, rfl, _, rfl⟩
            case round =>
              obtain ⟨k3, hk3, rfl, rfl, nq3, rfl⟩ := hrel
              by_cases hkN3 : k3 < N
              · have hkz3 : (k3 : Int) < (N : Int) := by omega
                have hkz30 : (0 : Int) ≤ (k3 : Int) := by omega
                have hm3 : k3 * N ≤ 36 := Nat.mul_le_mul (by omega : k3 ≤ 6) hN6
                have hmz30 : (0 : Int) ≤ (k3 : Int) * (N : Int) := Int.mul_nonneg (by omega) (by omega)
                have hmz3 : (k3 : Int) * (N : Int) ≤ 36 := by have : ((k3 * N : Nat) : Int) = (k3 : Int) * (N : Int) := by simp
                                                              omega
                have ck3 := A4.out.2.1.k.cell hkN3
                go_wp2_with fail
                go_loopg [24] N (fun gg i wr => ∃ x : Nat, x ≤ N ∧ gg = N - x ∧ i = .int .i64 x ∧ ∃ nq, wr = w4.drewN nq)
                case atStart => exact ⟨0, Nat.zero_le _, rfl, rfl, _, rfl⟩
                case round =>
                  obtain ⟨x4, hx4, rfl, rfl, nq4, rfl⟩ := hrel
                  by_cases hxN4 : x4 < N
                  · have hxz4 : (x4 : Int) < (N : Int) := by omega
                    have hxz40 : (0 : Int) ≤ (x4 : Int) := by omega
                    have cv4 := (A4.out.2.2.2.2.1 k3 hkN3).cell hxN4
                    have hmx4 : k3 * N + x4 ≤ 1000 := by omega
                    go_wp2_with fail
                    go_quiet ((go_at_call 9; refine (CV.out _ k3 x4 _ rfl hmx4 ?_).mono ?_; exact belN A4.out.2.2.2.2.2 _; rintro e w' ⟨rfl, rfl⟩; exact ⟨rfl, _, rfl⟩))
                    go_wp2
                    go_roundg (N - (x4 + 1))
                    case measure => go_light; omega
                    case rel => go_light; exact ⟨x4 + 1, by omega, rfl, by simp, _, rfl⟩
                  · have hxz4 : ¬ (x4 : Int) < (N : Int) := by omega
                    go_wp2
                    go_roundg (N - (k3 + 1))
                    case measure => go_light; omega
                    case rel => go_light; exact ⟨k3 + 1, by omega, rfl, by simp, _, rfl⟩
              · have hkz3 : ¬ (k3 : Int) < (N : Int) := by omega
                have cg0 := A4.out.1.cell hN0n
                have zg0 := A4.out.1.frozen 0
                simp only [Bool.false_eq_true, if_false, if_true] at cg0
                have ckJ := A4.out.2.1.k.cell hJN
                have cvJ := (A4.out.2.2.2.2.1 J hJN).cell hN0n
                have ng1 : g ≠ q := hgq
                have ng2 : g ≠ kb := by omega
                have ng3 : g ≠ kv J := fun e => hkg e.symm
                have hge : w.heap.size ≤ (⟨g, 0, none⟩ : Addr).block := by show _ ≤ g; omega
                have AGe : Aside _ := hge
                clear hge
                go_wp2_with fail
                go_quiet ((go_at_call 9; refine (CV.out _ J 0 _ (by simp) (by omega) ?_).mono ?_; exact belN ((belN A4.out.2.2.2.2.2 _).setCell AGe.out _) _; rintro e w' ⟨rfl, rfl⟩; exact ⟨rfl, _, rfl⟩))
                go_wp2
                go_ret
                exact ⟨rfl, belN ((belN A4.out.2.2.2.2.2 _).setCell AGe.out _) _⟩
end Go.Proofs.Ybulkdaoq

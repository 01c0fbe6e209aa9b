import Derived.Test.YbulkdaoqQueue
namespace Go.Proofs.Ybulkdaoq
open Go.RowKit

theorem Rw.setU {w : World} {b n : Nat} {F : Nat → Int} (h : Rw w b n (fun i => .int .u64 (F i))) (x : Nat) (v : Int) : ∃ F' : Nat → Int, Rw (w.setCell ⟨b, x, none⟩ (.int .u64 v)) b n (fun i => .int .u64 (F' i)) :=
  ⟨fun i => if i = x then v else F i, (h.set x _).congr (fun i _ => by by_cases e : i = x <;> simp [e])⟩

set_option maxHeartbeats 4000000 in
set_option maxRecDepth 100000 in
theorem keep_walk (a0 : Option Addr) (l0 c0 : Nat) (f0 : Nat → Int) (m1 m2 : Nat) (b : Int) (w : World) (h0 : IsRowF (Value.int .u64) w a0 l0 c0 f0) (h1 : m1 ≤ 255) (h2 : m2 ≤ 255) :
    Calls Yba.prog 4 #[.slice a0 l0 c0, .int .u8 (m1 : Int), .int .u8 (m2 : Int), .int .u64 b] w fun e w' => e = .returned (.bool true) ∧ Below w.heap.size w w' := by
  obtain ⟨N, hN⟩ : ∃ N, N = m1 % 6 + 1 := ⟨_, rfl⟩
  have hNz : (m1 : Int) % 6 + 1 = (N : Int) := by omega
  have hN1 : 1 ≤ N := by omega
  have hN6 : N ≤ 6 := by omega
  obtain ⟨J, hJ⟩ : ∃ J, J = m2 % N := ⟨_, rfl⟩
  have hJz : (m2 : Int) % (N : Int) = (J : Int) := by rw [hJ]; simp
  have hJN : J < N := by rw [hJ]; exact Nat.mod_lt _ (by omega)
  have hj0 : (0 : Int) ≤ (J : Int) := by omega
  have hN0 : (0 : Int) < (N : Int) := by omega
  have hN0n : 0 < N := by omega
  have hj1 : (J : Int) < (N : Int) := by omega
  have A0 : Aside (IsRowF (Value.int .u64) w a0 l0 c0 f0) := h0
  have hnilB : IsRowF Value.bool w none 0 0 (fun _ => false) := ⟨Nat.le_refl _, Nat.zero_le _, fun h => absurd h (Nat.lt_irrefl _)⟩
  have hnilI : IsRowF (Value.int .u64) w none 0 0 (fun _ => 0) := ⟨Nat.le_refl _, Nat.zero_le _, fun h => absurd h (Nat.lt_irrefl _)⟩
  have hbuild := build_q a0 none none l0 c0 0 0 0 0 f0 (fun _ => 0) (fun _ => false) N w h0 hnilB hnilI hN6
  have hpn := neq_same
  clear hN hJ h0 hnilB hnilI
  go_enter Yba.func4, Yba.ntmps4
  go_wp2_with fail
  refine hbuild.mono ?_
  rintro e w1 ⟨q, kb, keb, lb, leb, kv, lr, rfl, hBt⟩
  clear hbuild
  rw [hJz]
  have hM : ∀ j, maskv (fun _ => false) 0 j = false := fun j => by simp [maskv]
  obtain ⟨hQ, hrk, _, hbel, hbase⟩ := hBt
  simp only [hM, Bool.false_eq_true, if_false] at hQ
  clear hM
  obtain ⟨hV, hk1, hk2⟩ := hrk J hJN
  clear hrk
  obtain ⟨b1, b2, b3, b4, b5, b6, b7, b8⟩ := hQ.ne
  have f9 := hQ.fke
  have cke := hQ.ke.cell hJN
  have hcb : (cnt (V2 f0 l0 N J) N : Int) ≤ 6 := by have := cnt_le (V2 f0 l0 N J) N; omega
  have hh := hold_nil N q kb keb lb leb kv _ _ _ (V2 f0 l0 N J) J w1 hQ (by omega) hJN rfl hV
  have AV : Aside (Rw w1 (kv J) N (fun x => .int .u64 (V2 f0 l0 N J x)) ∧ Below w.heap.size w w1) := ⟨hV, hbel⟩
  clear hQ hV hbel
  go_wp2_with fail
  refine hh.mono ?_
  rintro e w2 ⟨g, cap, rfl, hg, hcap, hgr, hQ2, ho2⟩
  clear hh f9 cke
  have hbel2 : Below w.heap.size w w2 := AV.out.2.trans (ho2.toBelow (by have := AV.out.2.size; omega) (by simp; omega))
  have hV2 := ho2.rw AV.out.1 (by simp; omega)
  have hg2 := hgr.lt
  have hsz2 := ho2.size
  clear ho2 AV
  -- the loop that turns the row of known
  have A2 : Aside (QS w2 N q kb keb lb leb kv (fun j => (cnt (V2 f0 l0 N j) N : Int)) (fun i => if i = J then sl g N cap else .slice none 0 0) (fun i => if i = J then (cnt (V2 f0 l0 N J) N : Int) else -1 - (i : Int)) ∧ Rw w2 g N (fun x => .int .u64 (V2 f0 l0 N J x)) ∧ Below w.heap.size w w2) := ⟨hQ2, hgr, hbel2⟩
  clear hQ2 hgr hbel2
  go_wp2_with fail
  go_loopg [14] N (fun gg i wr => ∃ x : Nat, x ≤ N ∧ gg = N - x ∧ i = .int .i64 x ∧ (∃ F : Nat → Int, Rw wr (kv J) N (fun i => .int .u64 (F i))) ∧ Only [kv J] w2 wr)
  case atStart => exact ⟨0, Nat.zero_le _, rfl, rfl, ⟨_, hV2⟩, Only.refl _ _⟩
  case round =>
    obtain ⟨x, hx, rfl, rfl, ⟨F, hF⟩, ho⟩ := hrel
    obtain ⟨w3, rfl⟩ : ∃ x, x = wr := ⟨_, rfl⟩
    clear hV2
    have hQ3 := A2.out.1.only ho (by simp; omega) (by simp; omega) (by simp; omega) (by simp; omega) (by simp; omega)
    by_cases hxN : x < N
    · have hxz : (x : Int) < (N : Int) := by omega
      have hxz0 : (0 : Int) ≤ (x : Int) := by omega
      have f4 := hQ3.fk
      have ck := hQ3.k.cell hJN
      have cv := hF.cell hxN
      have zv := hF.frozen x
      have AF : Aside (Rw w3 (kv J) N (fun i => .int .u64 (F i)) ∧ Only [kv J] w2 w3) := ⟨hF, ho⟩
      clear hF ho hQ3
      go_wp2
      go_region
      go_wp2
      go_roundg (N - (x + 1))
      case measure => go_light; omega
      case rel => go_light; exact ⟨x + 1, by omega, rfl, by simp, AF.out.1.setU x _, (AF.out.2.setCell (.inl (by simp)) _).drew⟩
    · have hxz : ¬ (x : Int) < (N : Int) := by omega
      have f9 := hQ3.fke
      have cke := hQ3.ke.cell hJN
      have zke := hQ3.ke.frozen J
      have hg3 : Rw w3 g N (fun x => .int .u64 (V2 f0 l0 N J x)) := ho.rw A2.out.2.1 (by simp; omega)
      have hb3 : Below w.heap.size w w3 := A2.out.2.2.trans (ho.toBelow (by have := A2.out.2.2.size; omega) (by simp; omega))
      have hQ4 := hQ3.setKe J ((cnt (V2 f0 l0 N J) N : Int) + 7)
      have hs4 := hold_set N q kb keb lb leb kv _ _ _ g cap J _ hQ4 (by omega) hJN (by simp)
      have hl4 := latest_set N q kb keb lb leb kv _ _ _ g cap J _ hQ4 (by omega) hJN (by simp)
      have hg4 : Rw (w3.setCell ⟨keb, J, none⟩ (.int .i64 ((cnt (V2 f0 l0 N J) N : Int) + 7))) g N (fun x => .int .u64 (V2 f0 l0 N J x)) := hg3.setOther (by show g ≠ keb; omega) _
      have hb4 : Below w.heap.size w (w3.setCell ⟨keb, J, none⟩ (.int .i64 ((cnt (V2 f0 l0 N J) N : Int) + 7))) := hb3.setCell (by show _ ≤ keb; omega) _
      have A4 : Aside _ := And.intro hQ4 (And.intro hg4 hb4)
      clear hQ3 hF ho hg3 hb3 hQ4 hg4 hb4 A2
      go_wp2_with fail
      refine hs4.mono ?_
      rintro e w4 ⟨rfl, rfl⟩
      clear hs4 f9 cke zke
      generalize w3.setCell ⟨keb, J, none⟩ (.int .i64 ((cnt (V2 f0 l0 N J) N : Int) + 7)) = w4 at *
      obtain ⟨hQ4, hg4, hb4⟩ := A4.out
      clear hl4
      have f11 := hQ4.fle
      have cle := hQ4.le.cell hJN
      simp only [if_true] at cle
      have A4' : Aside _ := And.intro hQ4 (And.intro hg4 hb4)
      clear hQ4 hg4 hb4 A4
      go_wp2_with fail
      go_quiet (fail)
      go_wp2_with fail
      refine (latest_set N q kb keb lb leb kv _ _ _ g cap J _ (A4'.out.1.drewN _) (by omega) hJN (by simp)).mono ?_
      rintro e w5 ⟨rfl, rfl⟩
      go_wp2_with fail
      go_quiet (fail)
      go_wp2_with fail
      go_loopg [17] N (fun gg i wr => ∃ y : Nat, y ≤ N ∧ gg = N - y ∧ i = .int .i64 y ∧ ∃ nq, wr = w4.drewN nq)
      case atStart => exact ⟨0, Nat.zero_le _, rfl, rfl, _, World.drewN_drewN _ _ _⟩
      case round =>
        obtain ⟨y, hy, rfl, rfl, nq, rfl⟩ := hrel
        by_cases hyN : y < N
        · have hyz : (y : Int) < (N : Int) := by omega
          have hyz0 : (0 : Int) ≤ (y : Int) := by omega
          have cg := A4'.out.2.1.cell hyN
          have hm : J * N ≤ 36 := Nat.mul_le_mul (by omega : J ≤ 6) hN6
          have hmz0 : (0 : Int) ≤ (J : Int) * (N : Int) := Int.mul_nonneg (by omega) (by omega)
          have hmz : (J : Int) * (N : Int) ≤ 36 := by have : ((J * N : Nat) : Int) = (J : Int) * (N : Int) := by simp
                                                      omega
          have hmx : J * N + y ≤ 1000 := by omega
          go_wp2_with fail
          go_quiet ((go_at_call 9; refine (at_V2 a0 l0 c0 f0 _ N J y w _ A0.out rfl hmx ?_).mono ?_; exact ⟨A4'.out.2.2.os, A4'.out.2.2.tape, A4'.out.2.2.output, A4'.out.2.2.size, A4'.out.2.2.block⟩; rintro e w' ⟨rfl, rfl⟩; exact ⟨rfl, _, rfl⟩))
          go_wp2
          go_roundg (N - (y + 1))
          case measure => go_light; omega
          case rel => go_light; exact ⟨y + 1, by omega, rfl, by simp, _, rfl⟩
        · have hyz : ¬ (y : Int) < (N : Int) := by omega
          go_wp2
          go_ret
          exact ⟨rfl, ⟨A4'.out.2.2.os, A4'.out.2.2.tape, A4'.out.2.2.output, A4'.out.2.2.size, A4'.out.2.2.block⟩⟩
end Go.Proofs.Ybulkdaoq

import Derived.Test.YbulkdaoqKeys
namespace Go.Proofs.Ybulkdaoq
open Go.RowKit Go.Sort Go.Shelf

set_option maxHeartbeats 4000000 in
set_option maxRecDepth 100000 in
theorem settle_more (n s : Nat) (S : Nat → ByteArray) (L : Nat → Nat) (K : Nat → Int) (c sd eb sb kb sp kp : Nat) (x1 x2 : Value) (w : World)
    (h : St w n s S L K c sd eb sb kb sp kp x1 x2 (.slice none 0 0)) (hn : n ≤ 300) (hs : s < n) (hp : ((List.range n).map L).Perm (List.range n)) (hso : ∀ i j, i < j → j < s → ple S (L i) (L j)) :
    Calls Yba.prog 12 #[.pointer (some ⟨c, 0, none⟩)] w fun e w' => e = .returned (.tuple #[]) ∧ ∃ L' K' sb' sp' us', St w' n n S L' K' c sd eb sb' kb sp' kp x1 x2 us' ∧ ((List.range n).map L').Perm (List.range n) ∧
      (∀ i j, i < j → j < n → ple S (L' i) (L' j)) ∧ (∀ i, i < n → K' i = (L' i : Int) * 3 + 1) ∧ Only [sd, sb, kb] w w' := by
  have l1 := h.lt
  have l2 := h.side.lt
  have l3 := h.ent.lt
  have l4 := h.srt.lt
  have l5 := h.key.lt
  have h0 := h.same ((Only.refl [] w).alloc (.cells #[.pointer (some ⟨c, 0, none⟩)] 45))
  have hr0 : Reads (w.alloc (.cells #[.pointer (some ⟨c, 0, none⟩)] 45)) n S w.heap.size c sd eb := ⟨by simp, h0.clk, h0.f0, fun i hi => h0.id hi⟩
  have o0 : Only [] w (w.alloc (.cells #[.pointer (some ⟨c, 0, none⟩)] 45)) := (Only.refl [] w).alloc _
  have z0 : w.heap.size < (w.alloc (.cells #[.pointer (some ⟨c, 0, none⟩)] 45)).heap.size := by simp
  have A0 : Aside _ := And.intro h0 (And.intro hr0 (And.intro o0 z0))
  have AP : Aside (((List.range n).map L).Perm (List.range n) ∧ (∀ i j, i < j → j < s → ple S (L i) (L j))) := ⟨hp, hso⟩
  have AN : Aside _ := h.ne
  have hcap : n ≤ sp := h.cap.1
  clear h h0 hr0 o0 z0 hp hso
  go_enter Yba.func12, Yba.ntmps12
  go_wp2_with fail
  generalize w.alloc (.cells #[.pointer (some ⟨c, 0, none⟩)] 45) = w0 at *
  obtain ⟨h0, hr0, o0, z0⟩ := A0.out
  have hbx := hr0.box
  have hclk := h0.clk
  have f3 := h0.f3
  have f6 := h0.f6
  have hse : ((s : Int) == (n : Int)) = false := by simp; omega
  have hs0 : (0 : Int) ≤ (s : Int) := by omega
  have hs1 : (s : Int) ≤ (n : Int) := by omega
  have hs2 : (s : Int) ≤ (sp : Int) := by omega
  have hs3 : (n : Int) ≤ (sp : Int) := by omega
  have hsort := fun q => sort_calls n s S L w.heap.size c sd eb sb (sp - s) (w0.drewN q) (hr0.drewN q) hs hn (perm_lt AP.out.1) (h0.srt.drewN q) z0 h0.lt h0.side.lt h0.ent.lt (by omega) (by have := AN.out; omega) (by have := AN.out; omega) (by have := AN.out; omega)
  clear h0 hr0 o0 z0
  go_quiet (fail)
  go_wp2_with fail
  go_quiet (fail)
  go_wp2_with fail
  refine (hsort _).mono ?_
  rintro e w1 ⟨rfl, L1, hfix, hpm, hmet, hrow1, ho1⟩
  clear hsort hbx hclk f3 f6
  obtain ⟨h0, hr0, o0, z0⟩ := A0.out
  have ho1 : Only [sb] w0 w1 := ⟨ho1.os, ho1.tape, ho1.output, ho1.size, ho1.block⟩
  have h1 := h0.resort ho1 hrow1
  have hr1 := reads_only hr0 ho1 z0 h0.lt h0.side.lt h0.ent.lt (by simp; omega) (by have := AN.out; simp; omega) (by have := AN.out; simp; omega) (by have := AN.out; simp; omega)
  have hp1 := perm_resort (Nat.le_of_lt hs) hfix hpm AP.out.1
  have hb1 : ∀ i j, i < j → j < s → ple S (L1 i) (L1 j) := fun i j hij hj => by rw [hfix i (by omega), hfix j hj]; exact AP.out.2 i j hij hj
  have o1 : Only [sb] w w1 := (o0.mono (by simp)).trans ho1
  have z1 : w.heap.size < w1.heap.size := by have := ho1.size; omega
  have A1 : Aside (St w1 n s S L1 K c sd eb sb kb sp kp x1 x2 (.slice none 0 0) ∧ Reads w1 n S w.heap.size c sd eb ∧ ((List.range n).map L1).Perm (List.range n) ∧ (∀ i j, i < j → j < s → ple S (L1 i) (L1 j)) ∧ (∀ i j, s ≤ i → i < j → j < n → ple S (L1 i) (L1 j)) ∧ Only [sb] w w1 ∧ w.heap.size < w1.heap.size) := ⟨h1, hr1, hp1, hb1, hmet, o1, z1⟩
  clear h1 hr1 hp1 hb1 hmet o1 z1 hfix hpm hrow1 ho1 h0 hr0 o0 z0 A0 AP
  obtain ⟨bm, hbm⟩ : ∃ b : Bool, b = (decide (0 < s) && decide (0 < cmpS S (L1 (s - 1)) (L1 s))) := ⟨_, rfl⟩
  have AB : Aside (bm = (decide (0 < s) && decide (0 < cmpS S (L1 (s - 1)) (L1 s)))) := hbm
  clear hbm
  go_wp2_with fail
  go_cut [74] from 58 (fun s74 wx => s74 = .bool bm ∧ ∃ q, wx = w1.drewN q)
  case first =>
    by_cases hs0' : s = 0
    · have hsz : ¬ (0 : Int) < (s : Int) := by omega
      have e : bm = false := by rw [AB.out, hs0']; rfl
      subst e
      have hd1 : decide ((0 : Int) < (s : Int)) = false := by simpa using hsz
      have hd2 : decide (0 < s) = false := by simp; omega
      have hd3 : ¬ 0 < s := by omega
      clear hs0'
      go_quiet (fail)
      go_wp2
      go_meet
      case rel => exact ⟨rfl, _, rfl⟩
    · have hsp : (0 : Int) < (s : Int) := by omega
      have hspn : 0 < s := by omega
      have cl := A1.out.1.srt.cell (i := s - 1) (by omega)
      have cm := A1.out.1.srt.cell (i := s) hs
      have ncm : 0 < n - s := by omega
      by_cases hcmp : 0 < cmpS S (L1 (s - 1)) (L1 s)
      · have e : bm = true := by rw [AB.out]; simp [hspn, hcmp]
        subst e
        go_quiet ((go_at_call 17; exact Calls.quiet_of (byid_calls n (L1 (s - 1)) (L1 s) w.heap.size c sd eb S _ (A1.out.2.1.drewN _) (perm_lt A1.out.2.2.1 _ (by omega)) (perm_lt A1.out.2.2.1 _ hs))))
        go_wp2
        go_meet
        case rel => exact ⟨rfl, _, rfl⟩
      · have e : bm = false := by rw [AB.out]; simp [hcmp]
        subst e
        go_quiet ((go_at_call 17; exact Calls.quiet_of (byid_calls n (L1 (s - 1)) (L1 s) w.heap.size c sd eb S _ (A1.out.2.1.drewN _) (perm_lt A1.out.2.2.1 _ (by omega)) (perm_lt A1.out.2.2.1 _ hs))))
        go_wp2
        go_meet
        case rel => exact ⟨rfl, _, rfl⟩
  case rest =>
    obtain ⟨rfl, q1, rfl⟩ := hcut
    go_upto_if 74 with (fail)
    go_cut [] from 3 (fun wx => ∃ Lf sbf spf usf, Tail w wx n s S K c sd eb sb kb kp x1 x2 Lf sbf spf usf)
    case first =>
      cases bm
      · go_wp2
        go_meet
        case rel =>
          refine ⟨L1, sb, sp, _, A1.out.1.drewN q1, A1.out.2.2.1, sorted_join A1.out.2.2.2.1 A1.out.2.2.2.2.1 ?_, A1.out.2.1.box, (A1.out.2.2.2.2.2.1.mono (by simp)).drewN _, A1.out.2.2.2.2.2.2⟩
          by_cases e : s = 0
          · exact .inl e
          · refine .inr fun hlt => ?_
            have h1 := AB.out
            have h2 : 0 < cmpS S (L1 (s - 1)) (L1 s) := (cmp_pos _ _).2 hlt
            have h3 : 0 < s := by omega
            simp [h2, h3] at h1
      · have hbx := A1.out.2.1.box
        have hclk := A1.out.1.clk
        have f4 := A1.out.1.f4
        go_wp2_with fail
        obtain ⟨i0, hi0, hz0, hz1, hz2⟩ := info_parts cinfo3
        go_loopg [3, 4, 5] n (fun gg v3 v4 v5 wr => ∃ (i j : Nat) (M : List Nat) (a4 : Addr), gg = n - i - j ∧ Mg S n s L1 i j M ∧ v3 = .slice (some ⟨sb, i, none⟩) (s - i) (sp - i) ∧ v4 = .slice (some a4) (n - s - j) (sp - s - j) ∧ (s + j < n → a4 = ⟨sb, s + j, none⟩) ∧
          wr.ownsRow w1.heap.size 3 1 v5 M.length (nvals M) ∧ Only [] w1 wr)
        case atStart => exact ⟨0, 0, [], ⟨sb, s, none⟩, rfl, Mg.start (Nat.le_of_lt hs), rfl, rfl, fun _ => rfl, World.ownsRow_nil _ _ _ _, (Only.refl _ _).drewN _⟩
        case round =>
          obtain ⟨i, j, M, a4, rfl, hM, rfl, rfl, ha4, hown, hoM⟩ := hrel
          obtain ⟨w2, rfl⟩ : ∃ x, x = wr := ⟨_, rfl⟩
          clear hbx hclk f4
          have h2 := A1.out.1.same hoM
          have hr2 := reads_only (bs := []) A1.out.2.1 hoM A1.out.2.2.2.2.2.2 A1.out.1.lt A1.out.1.side.lt A1.out.1.ent.lt (by simp) (by simp) (by simp) (by simp)
          have hMi := hM.hi
          have hMj := hM.hj
          have AMl : Aside (M.length = i + j) := hM.len
          have hMl : M.length ≤ 300 := by have := hM.len; omega
          by_cases hi : i < s
          · by_cases hj : s + j < n
            · obtain rfl := ha4 hj
              have e1 : (0 : Int) < ((s - i : Nat) : Int) := by omega
              have e2 : (0 : Int) < ((n - s - j : Nat) : Int) := by omega
              have e3 : 0 < s - i := by omega
              have e4 : 0 < n - s - j := by omega
              have ci := h2.srt.cell (i := i) (by omega)
              have cj := h2.srt.cell (i := s + j) hj
              have hLi := perm_lt A1.out.2.2.1 i (by omega)
              have hLj := perm_lt A1.out.2.2.1 (s + j) hj
              have hsbz : sb < w1.heap.size := A1.out.1.srt.lt
              have hz2w : w1.heap.size ≤ w2.heap.size := hoM.size
              have hby : ∀ m, Calls Yba.prog 17 #[.int .i64 (L1 i : Int), .int .i64 (L1 (s + j) : Int), .pointer (some ⟨w.heap.size, 0, none⟩)] (w2.drewN m) fun e w' => e = .returned (.int .i64 (cmpS S (L1 i) (L1 (s + j)))) ∧ ∃ k, w' = (w2.drewN m).drewN k :=
                fun m => byid_calls n (L1 i) (L1 (s + j)) w.heap.size c sd eb S _ (hr2.drewN m) hLi hLj
              have A2 : Aside (Mg S n s L1 i j M ∧ w2.ownsRow w1.heap.size 3 1 u5 M.length (nvals M) ∧ Only [] w1 w2) := ⟨hM, hown, hoM⟩
              have AY : Aside _ := hby
              clear hM hown hoM h2 hr2 hby
              by_cases hlt : cmpS S (L1 i) (L1 (s + j)) < 0
              · go_wp2_with fail
                go_quiet ((go_at_call 17; exact Calls.quiet_of (AY.out _)))
                go_wp2_with fail
                have A3 : Aside ((w2.drewN nq).ownsRow w1.heap.size 3 1 u5 M.length (nvals M) ∧ Only [] w1 (w2.drewN nq) ∧ w1.heap.size ≤ (w2.drewN nq).heap.size ∧ (w2.drewN nq).cell? ⟨sb, i, none⟩ = some (.int .i64 (L1 i : Int))) := ⟨A2.out.2.1, A2.out.2.2.drewN _, hz2w, ci⟩
                clear ci cj hz2w
                generalize w2.drewN nq = w3 at *
                obtain ⟨hown, hoM, hz3, ci⟩ := A3.out
                have ag : u5.ownBlock ≠ some sb := fun e => by have := (hown.lt sb e).1; omega
                have hsb3 : sb < w3.heap.size := by omega
                have AM : Aside (w3.ownsRow w1.heap.size 3 1 u5 M.length (nvals M)) := hown
                have t1 : (1 : Int) ≤ ((s - i : Nat) : Int) := by omega
                have t1n : 1 ≤ s - i := by omega
                have t2 : ((s - i : Nat) : Int) ≤ ((sp - i : Nat) : Int) := by omega
                have t2n : s - i ≤ sp - i := by omega
                have t3 : (1 : Int) ≤ ((sp - i : Nat) : Int) := by omega
                have t3n : 1 < sp - i := by omega
                clear hown hoM
                go_region_held3 (fun w' => w'.cell? ⟨sb, i, none⟩ = some (.int .i64 (L1 i : Int)))
                  (first
                    | go_keep
                    | (rw [hgrow.cell_far _ (by simp; omega) (Ne.symm ag)]; assumption))
                  ((refine step_append_lies _ (by rfl) _ _ _ (by rfl) w1.heap.size 3 i0 _ 1 8 Yba.underlying29 hi0 hz0 hz1 hz2 rfl (by omega) u5 M.length (nvals M) (by rfl) ((AM.out.alloc _))
                      ⟨w3.heap.size, 0, none⟩ 1 1 [.int .i64 (L1 i : Int)] (by rfl) (by rfl) (World.news_of_block (cs := #[.int .i64 (L1 i : Int)]) (t := 3) (fr := (0, 0)) (heap_alloc_new w3 _)) (by simp [Value.oneCell'])
                      (by omega) (by unfold maxLen; omega) (by omega) (by simp; omega) (w3.heap.size + 1) (by simp) ?_; intro gg cap w4 hown1 hgrow hat hgl))
                go_wp2
                go_roundg (n - (i + 1) - j)
                case measure => go_light; omega
                case rel =>
                  go_light
                  refine ⟨i + 1, j, M ++ [L1 i], ⟨sb, s + j, none⟩, rfl, A2.out.1.left A1.out.2.2.2.1 A1.out.2.2.2.2.1 hi hj (ple_of_lt ((cmp_neg _ _).1 hlt)), sl3 (by omega) (by omega), rfl, fun _ => rfl, ?_, ?_⟩
                  · rw [nvals_append, List.length_append]
                    exact hown1
                  · exact (A3.out.2.1.alloc _).drew.grown hgrow (fun k e => (A3.out.1.lt k e).1)
              · have Alt : Aside (ple S (L1 (s + j)) (L1 i)) := fun e => hlt ((cmp_neg _ _).2 e)
                go_wp2_with fail
                go_quiet ((go_at_call 17; exact Calls.quiet_of (AY.out _)))
                go_wp2_with fail
                have A3 : Aside ((w2.drewN nq).ownsRow w1.heap.size 3 1 u5 M.length (nvals M) ∧ Only [] w1 (w2.drewN nq) ∧ w1.heap.size ≤ (w2.drewN nq).heap.size ∧ (w2.drewN nq).cell? ⟨sb, s + j, none⟩ = some (.int .i64 (L1 (s + j) : Int))) := ⟨A2.out.2.1, A2.out.2.2.drewN _, hz2w, cj⟩
                clear ci cj hz2w
                generalize w2.drewN nq = w3 at *
                obtain ⟨hown, hoM, hz3, ci⟩ := A3.out
                have ag : u5.ownBlock ≠ some sb := fun e => by have := (hown.lt sb e).1; omega
                have hsb3 : sb < w3.heap.size := by omega
                have AM : Aside (w3.ownsRow w1.heap.size 3 1 u5 M.length (nvals M)) := hown
                have t1 : (1 : Int) ≤ ((n - s - j : Nat) : Int) := by omega
                have t1n : 1 ≤ n - s - j := by omega
                have t2 : ((n - s - j : Nat) : Int) ≤ ((sp - s - j : Nat) : Int) := by omega
                have t2n : n - s - j ≤ sp - s - j := by omega
                have t3 : (1 : Int) ≤ ((sp - s - j : Nat) : Int) := by omega
                clear hown hoM hlt
                by_cases hcap1 : 1 < sp - s - j
                all_goals
                  go_region_held3 (fun w' => w'.cell? ⟨sb, s + j, none⟩ = some (.int .i64 (L1 (s + j) : Int)))
                    (first
                      | go_keep
                      | (rw [hgrow.cell_far _ (by simp; omega) (Ne.symm ag)]; assumption))
                    ((refine step_append_lies _ (by rfl) _ _ _ (by rfl) w1.heap.size 3 i0 _ 1 8 Yba.underlying29 hi0 hz0 hz1 hz2 rfl (by omega) u5 M.length (nvals M) (by rfl) ((AM.out.alloc _))
                        ⟨w3.heap.size, 0, none⟩ 1 1 [.int .i64 (L1 (s + j) : Int)] (by rfl) (by rfl) (World.news_of_block (cs := #[.int .i64 (L1 (s + j) : Int)]) (t := 3) (fr := (0, 0)) (heap_alloc_new w3 _)) (by simp [Value.oneCell'])
                        (by omega) (by unfold maxLen; omega) (by omega) (by simp; omega) (w3.heap.size + 1) (by simp) ?_; intro gg cap w4 hown1 hgrow hat hgl))
                  go_wp2
                  go_roundg (n - i - (j + 1))
                  case measure => go_light; omega
                  case rel =>
                    go_light
                    refine ⟨i, j + 1, M ++ [L1 (s + j)], _, rfl, A2.out.1.right A1.out.2.2.2.1 A1.out.2.2.2.2.1 hi hj Alt.out, rfl, sl3 (by omega) (by omega), fun hlast => by first | rfl | (exfalso; omega) | (rw [Nat.add_assoc]), ?_, ?_⟩
                    · rw [nvals_append, List.length_append]
                      exact hown1
                    · exact (A3.out.2.1.alloc _).drew.grown hgrow (fun k e => (A3.out.1.lt k e).1)
            · have hjn : s + j = n := by omega
              have hd := hM.done A1.out.2.2.2.1 A1.out.2.2.2.2.1 (.inr hjn)
              have hsbz : sb < w1.heap.size := A1.out.1.srt.lt
              have hz2w : w1.heap.size ≤ w2.heap.size := hoM.size
              have hnews1 : ∀ t u, (nvals ((List.range (s - i)).map fun t => L1 (i + t)))[t]? = some u → w2.cell? ((⟨sb, i, none⟩ : Addr).add t) = some u := fun t u hu => by
                obtain ⟨ht, rfl⟩ := nvals_get _ _ _ _ hu
                rw [add_lit]
                exact h2.srt.cell (by omega)
              have hnews2 : ∀ t u, (nvals ((List.range (n - s - j)).map fun t => L1 (s + j + t)))[t]? = some u → w2.cell? (a4.add t) = some u ∧ (a4.add t).block = sb := fun t u hu => by
                obtain ⟨ht, rfl⟩ := nvals_get _ _ _ _ hu
                rw [ha4 (by omega), add_lit]
                exact ⟨h2.srt.cell (by omega), rfl⟩
              have ag : u5.ownBlock ≠ some sb := fun e => by have := (hown.lt sb e).1; omega
              have AM : Aside (w2.ownsRow w1.heap.size 3 1 u5 M.length (nvals M)) := hown
              have AN1 : Aside _ := hnews1
              have AN2 : Aside (∀ t u, (nvals ((List.range (n - s - j)).map fun t => L1 (s + j + t)))[t]? = some u → w2.cell? (a4.add t) = some u ∧ (a4.add t).block = sb) := hnews2
              have AD : Aside ((mergedAll n s L1 i j M).length = n ∧ (mergedAll n s L1 i j M).Perm ((List.range n).map L1) ∧ (mergedAll n s L1 i j M).Pairwise (ple S)) := hd
              have AO : Aside (Only [] w1 w2) := hoM
              have e1 : (0 : Int) < ((s - i : Nat) : Int) := by omega
              have e3 : 0 < s - i := by omega
              have e2 : ¬ (0 : Int) < ((n - s - j : Nat) : Int) := by omega
              have e4 : ¬ 0 < n - s - j := by omega
              clear hjn
              clear hM hown hoM h2 hr2 hnews1 hnews2 hd ha4
              go_wp2_with (first
                | (at_builtin; refine wpList_append_own _ rfl (.tmp 116) (.tmp 117) 29 rfl w1.heap.size 3 i0 (.int .i64 0) 1 8 Yba.underlying29 hi0 hz0 hz1 hz2 rfl (by decide) u5 M.length (nvals M) rfl AM.out ⟨sb, i, none⟩ (s - i) (sp - i) (nvals ((List.range (s - i)).map fun t => L1 (i + t))) rfl (by simp [nvals]) AN1.out (nvals_one _) (by unfold maxLen; omega) (by omega) (by omega) ?_; intro v1 w3 hown3 hgrow3 _)
                | (at_builtin; refine wpList_append_own _ rfl (.tmp 118) (.tmp 119) 29 rfl w1.heap.size 3 i0 (.int .i64 0) 1 8 Yba.underlying29 hi0 hz0 hz1 hz2 rfl (by decide) v1 (M.length + (s - i)) (nvals M ++ nvals ((List.range (s - i)).map fun t => L1 (i + t))) rfl hown3 a4 (n - s - j) (sp - s - j) (nvals ((List.range (n - s - j)).map fun t => L1 (s + j + t))) rfl (by simp [nvals]) (fun t u hu => hgrow3.cell (AN2.out t u hu).1 (by rw [(AN2.out t u hu).2]; exact Ne.symm ag)) (nvals_one _) (by unfold maxLen; omega) (by omega) (by have := hgrow3.size; omega) ?_; intro v2 w4 hown4 hgrow4 _))
              have o4 : Only [] w1 w4 := (AO.out.grown hgrow3 (fun k e => (AM.out.lt k e).1)).grown hgrow4 (fun k e => (hown3.lt k e).1)
              have hall : w4.ownsRow w1.heap.size 3 1 v2 (M.length + (s - i) + (n - s - j)) (nvals (mergedAll n s L1 i j M)) := by
                unfold mergedAll
                rw [nvals_append, nvals_append]
                exact hown4
              obtain ⟨g, cap, hv2, hg, hcp, hrow⟩ := own_row hall AD.out.1 (by have := AMl.out; omega) (by omega)
              rw [hv2]
              have h4 := A1.out.1.same o4
              have hr4 := reads_only (bs := []) A1.out.2.1 o4 A1.out.2.2.2.2.2.2 A1.out.1.lt A1.out.1.side.lt A1.out.1.ent.lt (by simp) (by simp) (by simp) (by simp)
              have hbx := hr4.box
              have hclk := h4.clk
              have f3 := h4.f3
              have f4 := h4.f4
              have z3 := h4.side.frozen 3
              have z4 := h4.side.frozen 4
              have hm := h4.merged (g := g) (cap := cap) (Lf := fun t => (mergedAll n s L1 i j M).getD t 0) hrow (by have := A1.out.1.lt; omega) (by have := A1.out.1.side.lt; omega) (by have := A1.out.1.ent.lt; omega) (by have := A1.out.1.key.lt; omega) hcp
              have hbx5 : ((w4.setCell ⟨sd, 3, none⟩ (sc g n cap)).setCell ⟨sd, 4, none⟩ (sc sb n sp)).cell? ⟨w.heap.size, 0, none⟩ = some (.pointer (some ⟨c, 0, none⟩)) := by
                rw [World.cell?_setCell_other _ _ _ _ (fun e => by have := congrArg Addr.block e; simp at this; omega), World.cell?_setCell_other _ _ _ _ (fun e => by have := congrArg Addr.block e; simp at this; omega)]
                exact hr4.box
              have hbig5 : w.heap.size < ((w4.setCell ⟨sd, 3, none⟩ (sc g n cap)).setCell ⟨sd, 4, none⟩ (sc sb n sp)).heap.size := by
                have := o4.size
                have := A1.out.2.2.2.2.2.2
                simp [World.setCell]
                omega
              have A5 : Aside _ := And.intro hm (And.intro o4 (And.intro hbx5 hbig5))
              have hne1 : w.heap.size ≠ sd := by omega
              have hne2 : sd ≠ w.heap.size := by omega
              have hne3 : c ≠ sd := AN.out.1
              have hne4 : sd ≠ c := fun e => AN.out.1 e.symm
              clear o4 hall hrow h4 hr4 hm hbx5 hbig5 hown3 hown4 hgrow3 hgrow4 hv2 AN1 AN2
              go_region
              go_wp2
              go_meet
              case rel =>
                refine ⟨fun t => (mergedAll n s L1 i j M).getD t 0, g, cap, sc sb n sp, ⟨A5.out.1.drewN 1, ?_, getD_sorted AD.out.1 AD.out.2.2, A5.out.2.2.1, ?_, ?_⟩⟩
                · rw [getD_map _ _ AD.out.1]
                  exact AD.out.2.1.trans A1.out.2.2.1
                · exact ((((A1.out.2.2.2.2.2.1.mono (cs := [sd, sb]) (by simp)).trans (A5.out.2.1.mono (by simp))).setCell (.inl (by simp)) _).setCell (.inl (by simp)) _).drew
                · exact A5.out.2.2.2
          · have hin : i = s := by omega
            have hd := hM.done A1.out.2.2.2.1 A1.out.2.2.2.2.1 (.inl hin)
            have hsbz : sb < w1.heap.size := A1.out.1.srt.lt
            have hz2w : w1.heap.size ≤ w2.heap.size := hoM.size
            have hnews1 : ∀ t u, (nvals ((List.range (s - i)).map fun t => L1 (i + t)))[t]? = some u → w2.cell? ((⟨sb, i, none⟩ : Addr).add t) = some u := fun t u hu => by
              obtain ⟨ht, rfl⟩ := nvals_get _ _ _ _ hu
              rw [add_lit]
              exact h2.srt.cell (by omega)
            have hnews2 : ∀ t u, (nvals ((List.range (n - s - j)).map fun t => L1 (s + j + t)))[t]? = some u → w2.cell? (a4.add t) = some u ∧ (a4.add t).block = sb := fun t u hu => by
              obtain ⟨ht, rfl⟩ := nvals_get _ _ _ _ hu
              rw [ha4 (by omega), add_lit]
              exact ⟨h2.srt.cell (by omega), rfl⟩
            have ag : u5.ownBlock ≠ some sb := fun e => by have := (hown.lt sb e).1; omega
            have AM : Aside (w2.ownsRow w1.heap.size 3 1 u5 M.length (nvals M)) := hown
            have AN1 : Aside _ := hnews1
            have AN2 : Aside (∀ t u, (nvals ((List.range (n - s - j)).map fun t => L1 (s + j + t)))[t]? = some u → w2.cell? (a4.add t) = some u ∧ (a4.add t).block = sb) := hnews2
            have AD : Aside ((mergedAll n s L1 i j M).length = n ∧ (mergedAll n s L1 i j M).Perm ((List.range n).map L1) ∧ (mergedAll n s L1 i j M).Pairwise (ple S)) := hd
            have AO : Aside (Only [] w1 w2) := hoM
            have e1 : ¬ (0 : Int) < ((s - i : Nat) : Int) := by omega
            have e3 : ¬ 0 < s - i := by omega
            clear hin
            clear hM hown hoM h2 hr2 hnews1 hnews2 hd ha4
            go_wp2_with (first
              | (at_builtin; refine wpList_append_own _ rfl (.tmp 116) (.tmp 117) 29 rfl w1.heap.size 3 i0 (.int .i64 0) 1 8 Yba.underlying29 hi0 hz0 hz1 hz2 rfl (by decide) u5 M.length (nvals M) rfl AM.out ⟨sb, i, none⟩ (s - i) (sp - i) (nvals ((List.range (s - i)).map fun t => L1 (i + t))) rfl (by simp [nvals]) AN1.out (nvals_one _) (by unfold maxLen; omega) (by omega) (by omega) ?_; intro v1 w3 hown3 hgrow3 _)
              | (at_builtin; refine wpList_append_own _ rfl (.tmp 118) (.tmp 119) 29 rfl w1.heap.size 3 i0 (.int .i64 0) 1 8 Yba.underlying29 hi0 hz0 hz1 hz2 rfl (by decide) v1 (M.length + (s - i)) (nvals M ++ nvals ((List.range (s - i)).map fun t => L1 (i + t))) rfl hown3 a4 (n - s - j) (sp - s - j) (nvals ((List.range (n - s - j)).map fun t => L1 (s + j + t))) rfl (by simp [nvals]) (fun t u hu => hgrow3.cell (AN2.out t u hu).1 (by rw [(AN2.out t u hu).2]; exact Ne.symm ag)) (nvals_one _) (by unfold maxLen; omega) (by omega) (by have := hgrow3.size; omega) ?_; intro v2 w4 hown4 hgrow4 _))
            have o4 : Only [] w1 w4 := (AO.out.grown hgrow3 (fun k e => (AM.out.lt k e).1)).grown hgrow4 (fun k e => (hown3.lt k e).1)
            have hall : w4.ownsRow w1.heap.size 3 1 v2 (M.length + (s - i) + (n - s - j)) (nvals (mergedAll n s L1 i j M)) := by
              unfold mergedAll
              rw [nvals_append, nvals_append]
              exact hown4
            obtain ⟨g, cap, hv2, hg, hcp, hrow⟩ := own_row hall AD.out.1 (by have := AMl.out; omega) (by omega)
            rw [hv2]
            have h4 := A1.out.1.same o4
            have hr4 := reads_only (bs := []) A1.out.2.1 o4 A1.out.2.2.2.2.2.2 A1.out.1.lt A1.out.1.side.lt A1.out.1.ent.lt (by simp) (by simp) (by simp) (by simp)
            have hbx := hr4.box
            have hclk := h4.clk
            have f3 := h4.f3
            have f4 := h4.f4
            have z3 := h4.side.frozen 3
            have z4 := h4.side.frozen 4
            have hm := h4.merged (g := g) (cap := cap) (Lf := fun t => (mergedAll n s L1 i j M).getD t 0) hrow (by have := A1.out.1.lt; omega) (by have := A1.out.1.side.lt; omega) (by have := A1.out.1.ent.lt; omega) (by have := A1.out.1.key.lt; omega) hcp
            have hbx5 : ((w4.setCell ⟨sd, 3, none⟩ (sc g n cap)).setCell ⟨sd, 4, none⟩ (sc sb n sp)).cell? ⟨w.heap.size, 0, none⟩ = some (.pointer (some ⟨c, 0, none⟩)) := by
              rw [World.cell?_setCell_other _ _ _ _ (fun e => by have := congrArg Addr.block e; simp at this; omega), World.cell?_setCell_other _ _ _ _ (fun e => by have := congrArg Addr.block e; simp at this; omega)]
              exact hr4.box
            have hbig5 : w.heap.size < ((w4.setCell ⟨sd, 3, none⟩ (sc g n cap)).setCell ⟨sd, 4, none⟩ (sc sb n sp)).heap.size := by
              have := o4.size
              have := A1.out.2.2.2.2.2.2
              simp [World.setCell]
              omega
            have A5 : Aside _ := And.intro hm (And.intro o4 (And.intro hbx5 hbig5))
            have hne1 : w.heap.size ≠ sd := by omega
            have hne2 : sd ≠ w.heap.size := by omega
            have hne3 : c ≠ sd := AN.out.1
            have hne4 : sd ≠ c := fun e => AN.out.1 e.symm
            clear o4 hall hrow h4 hr4 hm hbx5 hbig5 hown3 hown4 hgrow3 hgrow4 hv2 AN1 AN2
            go_region
            go_wp2
            go_meet
            case rel =>
              refine ⟨fun t => (mergedAll n s L1 i j M).getD t 0, g, cap, sc sb n sp, ⟨A5.out.1.drewN 1, ?_, getD_sorted AD.out.1 AD.out.2.2, A5.out.2.2.1, ?_, ?_⟩⟩
              · rw [getD_map _ _ AD.out.1]
                exact AD.out.2.1.trans A1.out.2.2.1
              · exact ((((A1.out.2.2.2.2.2.1.mono (cs := [sd, sb]) (by simp)).trans (A5.out.2.1.mono (by simp))).setCell (.inl (by simp)) _).setCell (.inl (by simp)) _).drew
              · exact A5.out.2.2.2
    case rest =>
      obtain ⟨Lf, sbf, spf, usf, hT⟩ := hcut
      have AT : Aside (Kg w (wc.setCell ⟨sd, 5, none⟩ (sc kb 0 kp)) n s S c sd eb sb kb kp x1 x2 Lf sbf spf usf 0 K) := hT.start l2 l5
      have AP : Aside (((List.range n).map Lf).Perm (List.range n) ∧ (∀ i j, i < j → j < n → ple S (Lf i) (Lf j))) := ⟨hT.perm, hT.srt⟩
      have hbx := hT.box
      have hclk := hT.st.clk
      have f5 := hT.st.f5
      have z5 := hT.st.side.frozen 5
      have hkp0 : (0 : Int) ≤ (kp : Int) := by omega
      have hss0 : (0 : Int) ≤ (s : Int) := by omega
      clear hT A1 AB
      go_wp2_with fail
      go_region
      have A5 : Aside (Kg w (wc.setCell ⟨sd, 5, none⟩ (sc kb 0 kp)).drew n s S c sd eb sb kb kp x1 x2 Lf sbf spf usf 0 K) := AT.out.same (Only.refl _ _).drew
      clear AT hbx hclk f5 z5
      generalize (wc.setCell ⟨sd, 5, none⟩ (sc kb 0 kp)).drew = w5 at *
      have hbx := A5.out.box
      have hclk := A5.out.clk
      have f3 := A5.out.side.cell (i := 3) (by omega)
      dsimp only [sideF] at f3
      go_wp2_with fail
      clear hbx hclk f3
      go_loopg [163] n (fun g i wr => ∃ k : Nat, k ≤ n ∧ g = n - k ∧ i = .int .i64 k ∧ ∃ K', Kg w wr n s S c sd eb sb kb kp x1 x2 Lf sbf spf usf k K')
      case atStart => exact ⟨0, Nat.zero_le _, rfl, rfl, K, A5.out⟩
      case round =>
        obtain ⟨k, hk, rfl, rfl, K', hK⟩ := hrel
        obtain ⟨w6, rfl⟩ : ∃ x, x = wr := ⟨_, rfl⟩
        by_cases hkn : k < n
        · have hkz : (k : Int) < (n : Int) := by omega
          have hkz0 : (0 : Int) ≤ (k : Int) := by omega
          have cs := hK.srt.cell hkn
          have AK : Aside (Kg w w6 n s S c sd eb sb kb kp x1 x2 Lf sbf spf usf k K') := hK
          obtain ⟨n1, n2, n3, n4, n5, n6, n7, n8, n9, n10⟩ := hK.ne
          obtain ⟨n11, n12⟩ := hK.bx
          have hLk := perm_lt AP.out.1 k hkn
          have hLz : ((Lf k : Nat) : Int) < (n : Int) := by omega
          have hLz0 : (0 : Int) ≤ ((Lf k : Nat) : Int) := by omega
          have c1 := hK.box
          have c2 := hK.clk
          have c3 : w6.cell? ⟨sd, 5, none⟩ = some (sc kb k kp) := hK.side.cell (i := 5) (by omega)
          have c4 : w6.cell? ⟨sd, 0, none⟩ = some (sc eb n n) := hK.side.cell (i := 0) (by omega)
          have c5 := hK.ek hLk
          have z5 := hK.side.frozen 5
          have zk := hK.key.frozen k
          have ck := hK.key.cell hkn
          have lt1 := hK.lt
          have lt2 := hK.side.lt
          have lt3 := hK.ent.lt
          have lt4 := hK.key.lt
          have lt5 := hK.big
          have hkp := hK.cap.2
          have m1 := Ne.symm n11
          have m2 := Ne.symm n12
          have m3 := Ne.symm n4
          have m4 := Ne.symm n7
          have m5 := Ne.symm n9
          have m6 := Ne.symm n1
          have hs50 : ∀ (W : World) (v : Value), (W.setCell ⟨sd, 5, none⟩ v).cell? ⟨sd, 0, none⟩ = W.cell? ⟨sd, 0, none⟩ := fun W v => World.cell?_setCell_other _ _ _ _ (by simp)
          clear hK
          obtain ⟨i0, hi0, hz0, hz1, hz2⟩ := info_parts kinfo34
          go_wp2_with fail
          refine wp_region_held_drew (S := (fun w' => w'.cell? ⟨w.heap.size, 0, none⟩ = some (.pointer (some ⟨c, 0, none⟩)) ∧ w'.cell? ⟨c, 4, none⟩ = some (.pointer (some ⟨sd, 0, none⟩)) ∧ w'.cell? ⟨sd, 0, none⟩ = some (sc eb n n) ∧ w'.cell? ⟨eb, Lf k * 5 + 1, none⟩ = some (.int .u64 ((Lf k : Int) * 3 + 1)))) (by kernel_rfl) ⟨c1, c2, c4, c5⟩ (fun hHeld => ?_)
          refine take_one 0 167 (.pointer (some ⟨c, 0, none⟩)) rfl (by kernel_rfl) (by kernel_rfl) (by kernel_rfl) rfl (fun _ _ _ h => h) (Or.inl ⟨by rfl, fun w' hSw => by obtain ⟨s1, s2, s3, s4⟩ := hSw; go_simp⟩) hHeld ?_
          simp only [Act.put, List.setIfInBounds_toArray, List.set_cons_zero, List.set_cons_succ]
          refine take_one 1 168 (.pointer (some ⟨c, 0, none⟩)) rfl (by kernel_rfl) (by kernel_rfl) (by kernel_rfl) rfl (fun _ _ _ h => h) (Or.inl ⟨by rfl, fun w' hSw => by obtain ⟨s1, s2, s3, s4⟩ := hSw; go_simp⟩) hHeld ?_
          simp only [Act.put, List.setIfInBounds_toArray, List.set_cons_zero, List.set_cons_succ]
          refine take_one 2 169 (.pointer (some ⟨c, 4, none⟩)) rfl (by kernel_rfl) (by kernel_rfl) (by kernel_rfl) rfl (fun _ _ _ h => h) (Or.inl ⟨by rfl, fun w' hSw => by obtain ⟨s1, s2, s3, s4⟩ := hSw; go_simp⟩) hHeld ?_
          simp only [Act.put, List.setIfInBounds_toArray, List.set_cons_zero, List.set_cons_succ]
          refine take_one 3 170 (.pointer (some ⟨sd, 0, none⟩)) rfl (by kernel_rfl) (by kernel_rfl) (by kernel_rfl) rfl (fun _ _ _ h => h) (Or.inl ⟨by rfl, fun w' hSw => by obtain ⟨s1, s2, s3, s4⟩ := hSw; go_simp⟩) hHeld ?_
          simp only [Act.put, List.setIfInBounds_toArray, List.set_cons_zero, List.set_cons_succ]
          refine take_one 4 171 (.pointer (some ⟨c, 0, none⟩)) rfl (by kernel_rfl) (by kernel_rfl) (by kernel_rfl) rfl (fun _ _ _ h => h) (Or.inl ⟨by rfl, fun w' hSw => by obtain ⟨s1, s2, s3, s4⟩ := hSw; go_simp⟩) hHeld ?_
          simp only [Act.put, List.setIfInBounds_toArray, List.set_cons_zero, List.set_cons_succ]
          refine take_one 5 172 (.pointer (some ⟨c, 0, none⟩)) rfl (by kernel_rfl) (by kernel_rfl) (by kernel_rfl) rfl (fun _ _ _ h => h) (Or.inl ⟨by rfl, fun w' hSw => by obtain ⟨s1, s2, s3, s4⟩ := hSw; go_simp⟩) hHeld ?_
          simp only [Act.put, List.setIfInBounds_toArray, List.set_cons_zero, List.set_cons_succ]
          refine take_one 6 173 (.pointer (some ⟨c, 4, none⟩)) rfl (by kernel_rfl) (by kernel_rfl) (by kernel_rfl) rfl (fun _ _ _ h => h) (Or.inl ⟨by rfl, fun w' hSw => by obtain ⟨s1, s2, s3, s4⟩ := hSw; go_simp⟩) hHeld ?_
          simp only [Act.put, List.setIfInBounds_toArray, List.set_cons_zero, List.set_cons_succ]
          refine take_one 7 174 (.pointer (some ⟨sd, 0, none⟩)) rfl (by kernel_rfl) (by kernel_rfl) (by kernel_rfl) rfl (fun _ _ _ h => h) (Or.inl ⟨by rfl, fun w' hSw => by obtain ⟨s1, s2, s3, s4⟩ := hSw; go_simp⟩) hHeld ?_
          simp only [Act.put, List.setIfInBounds_toArray, List.set_cons_zero, List.set_cons_succ]
          refine take_one 8 175 (.pointer (some ⟨sd, 0, none⟩)) rfl (by kernel_rfl) (by kernel_rfl) (by kernel_rfl) rfl (fun _ _ _ h => h) (Or.inl ⟨by rfl, fun w' hSw => by obtain ⟨s1, s2, s3, s4⟩ := hSw; go_simp⟩) hHeld ?_
          simp only [Act.put, List.setIfInBounds_toArray, List.set_cons_zero, List.set_cons_succ]
          refine take_one 9 176 (.pointer (some ⟨sd, 5, none⟩)) rfl (by kernel_rfl) (by kernel_rfl) (by kernel_rfl) rfl (fun _ _ _ h => h) (Or.inl ⟨by rfl, fun w' hSw => by obtain ⟨s1, s2, s3, s4⟩ := hSw; go_simp⟩) hHeld ?_
          simp only [Act.put, List.setIfInBounds_toArray, List.set_cons_zero, List.set_cons_succ]
          refine take_one 11 178 (.pointer (some ⟨c, 0, none⟩)) rfl (by kernel_rfl) (by kernel_rfl) (by kernel_rfl) rfl (fun _ _ _ h => h) (Or.inl ⟨by rfl, fun w' hSw => by obtain ⟨s1, s2, s3, s4⟩ := hSw; go_simp⟩) hHeld ?_
          simp only [Act.put, List.setIfInBounds_toArray, List.set_cons_zero, List.set_cons_succ]
          refine take_one 12 179 (.pointer (some ⟨c, 0, none⟩)) rfl (by kernel_rfl) (by kernel_rfl) (by kernel_rfl) rfl (fun _ _ _ h => h) (Or.inl ⟨by rfl, fun w' hSw => by obtain ⟨s1, s2, s3, s4⟩ := hSw; go_simp⟩) hHeld ?_
          simp only [Act.put, List.setIfInBounds_toArray, List.set_cons_zero, List.set_cons_succ]
          refine take_one 13 180 (.pointer (some ⟨c, 4, none⟩)) rfl (by kernel_rfl) (by kernel_rfl) (by kernel_rfl) rfl (fun _ _ _ h => h) (Or.inl ⟨by rfl, fun w' hSw => by obtain ⟨s1, s2, s3, s4⟩ := hSw; go_simp⟩) hHeld ?_
          simp only [Act.put, List.setIfInBounds_toArray, List.set_cons_zero, List.set_cons_succ]
          refine take_one 14 181 (.pointer (some ⟨sd, 0, none⟩)) rfl (by kernel_rfl) (by kernel_rfl) (by kernel_rfl) rfl (fun _ _ _ h => h) (Or.inl ⟨by rfl, fun w' hSw => by obtain ⟨s1, s2, s3, s4⟩ := hSw; go_simp⟩) hHeld ?_
          simp only [Act.put, List.setIfInBounds_toArray, List.set_cons_zero, List.set_cons_succ]
          refine take_one 15 182 (.pointer (some ⟨sd, 0, none⟩)) rfl (by kernel_rfl) (by kernel_rfl) (by kernel_rfl) rfl (fun _ _ _ h => h) (Or.inl ⟨by rfl, fun w' hSw => by obtain ⟨s1, s2, s3, s4⟩ := hSw; go_simp⟩) hHeld ?_
          simp only [Act.put, List.setIfInBounds_toArray, List.set_cons_zero, List.set_cons_succ]
          refine take_one 16 183 (.pointer (some ⟨sd, 0, none⟩)) rfl (by kernel_rfl) (by kernel_rfl) (by kernel_rfl) rfl (fun _ _ _ h => h) (Or.inl ⟨by rfl, fun w' hSw => by obtain ⟨s1, s2, s3, s4⟩ := hSw; go_simp⟩) hHeld ?_
          simp only [Act.put, List.setIfInBounds_toArray, List.set_cons_zero, List.set_cons_succ]
          refine take_one 17 184 (sc eb n n) rfl (by kernel_rfl) (by kernel_rfl) (by kernel_rfl) rfl (fun _ _ _ h => h) (Or.inl ⟨by rfl, fun w' hSw => by obtain ⟨s1, s2, s3, s4⟩ := hSw; go_simp⟩) hHeld ?_
          simp only [Act.put, List.setIfInBounds_toArray, List.set_cons_zero, List.set_cons_succ]
          refine take_one 18 185 (.int .i64 (Lf k : Int)) rfl (by kernel_rfl) (by kernel_rfl) (by kernel_rfl) rfl (fun _ _ _ h => h) (Or.inl ⟨by rfl, fun w' hSw => by obtain ⟨s1, s2, s3, s4⟩ := hSw; go_simp⟩) hHeld ?_
          simp only [Act.put, List.setIfInBounds_toArray, List.set_cons_zero, List.set_cons_succ]
          refine take_one 19 186 (.pointer (some ⟨eb, Lf k * 5, none⟩)) rfl (by kernel_rfl) (by kernel_rfl) (by kernel_rfl) rfl (fun _ _ _ h => h) (Or.inl ⟨by rfl, fun w' hSw => by obtain ⟨s1, s2, s3, s4⟩ := hSw; go_simp⟩) hHeld ?_
          simp only [Act.put, List.setIfInBounds_toArray, List.set_cons_zero, List.set_cons_succ]
          refine take_one 20 187 (.pointer (some ⟨eb, Lf k * 5 + 1, none⟩)) rfl (by kernel_rfl) (by kernel_rfl) (by kernel_rfl) rfl (fun _ _ _ h => h) (Or.inl ⟨by rfl, fun w' hSw => by obtain ⟨s1, s2, s3, s4⟩ := hSw; go_simp⟩) hHeld ?_
          simp only [Act.put, List.setIfInBounds_toArray, List.set_cons_zero, List.set_cons_succ]
          refine take_one 21 188 (.int .u64 ((Lf k : Int) * 3 + 1)) rfl (by kernel_rfl) (by kernel_rfl) (by kernel_rfl) rfl (fun _ _ _ h => h) (Or.inl ⟨by rfl, fun w' hSw => by obtain ⟨s1, s2, s3, s4⟩ := hSw; go_simp⟩) hHeld ?_
          simp only [Act.put, List.setIfInBounds_toArray, List.set_cons_zero, List.set_cons_succ]
          refine wpAnyH_ready (rs := [10, 22]) (by kernel_rfl) (by simp) ?_
          refine AllReadyH.cons rfl (fun Kx hK => ?_) (AllReadyH.cons rfl (fun Kx hK => ?_) AllReadyH.nil)
          · go_simp
            refine hK.out _ _ hHeld (fun hHeld => ?_)
            clear hK Kx
            refine wpAnyH_ready (rs := [22]) (by kernel_rfl) (by simp) ?_
            refine AllReadyH.cons rfl (fun Kx hK => ?_) AllReadyH.nil
            go_simp
            refine hK.out _ _ (by go_keep) (fun hHeld => ?_)
            clear hK Kx
            refine wpAnyH_ready (rs := [23]) (by kernel_rfl) (by simp) ?_
            refine AllReadyH.cons rfl (fun Kx hK => ?_) AllReadyH.nil
            refine step_append_room (by rfl) _ _ _ (by rfl) 34 i0 1 Yba.underlying22 hi0 hz1 kb 0 k kp (by rfl)
              ⟨w6.heap.size, 0, none⟩ 1 1 [.int .u64 ((Lf k : Int) * 3 + 1)] (by rfl) (by rfl) (World.news_of_block (cs := #[.int .u64 ((Lf k : Int) * 3 + 1)]) (t := 34) (fr := (0, 0)) (heap_alloc_new w6 _)) (by simp [Value.oneCell'])
              (by omega) (fun j hj => spare_one AK.out.key hkn _ j hj) ?_
            rw [setCells_one']
            refine hK.out _ _ (by go_keep) (fun hHeld => ?_)
            clear hK Kx
            simp only [Act.put]
            refine take_one 24 191 (.pointer (some ⟨sd, 0, none⟩)) rfl (by kernel_rfl) (by kernel_rfl) (by kernel_rfl) rfl (fun _ _ _ h => h) (Or.inl ⟨by rfl, fun w' hSw => by obtain ⟨s1, s2, s3, s4⟩ := hSw; go_simp⟩) hHeld ?_
            simp only [Act.put]
            refine take_one 25 192 (.pointer (some ⟨sd, 5, none⟩)) rfl (by kernel_rfl) (by kernel_rfl) (by kernel_rfl) rfl (fun _ _ _ h => h) (Or.inl ⟨by rfl, fun w' hSw => by obtain ⟨s1, s2, s3, s4⟩ := hSw; go_simp⟩) hHeld ?_
            simp only [Act.put]
            refine wpAnyH_ready (rs := [26]) (by kernel_rfl) (by simp) ?_
            refine AllReadyH.cons rfl (fun Kx hK => ?_) AllReadyH.nil
            go_simp
            refine hK.out _ _ (by go_keep) (fun hHeld => ?_)
            clear hK Kx
            refine wpAnyH_done (by kernel_rfl) ?_ _
            go_wp2
            go_roundg (n - (k + 1))
            case measure => go_light; omega
            case rel =>
              go_light
              exact ⟨k + 1, by omega, rfl, by simp, _, (AK.out.step).same ((Only.refl _ _).alloc _).drew⟩
          · go_simp
            refine hK.out _ _ (by go_keep) (fun hHeld => ?_)
            clear hK Kx
            refine wpAnyH_ready (rs := [10]) (by kernel_rfl) (by simp) ?_
            refine AllReadyH.cons rfl (fun Kx hK => ?_) AllReadyH.nil
            go_simp
            refine hK.out _ _ hHeld (fun hHeld => ?_)
            clear hK Kx
            refine wpAnyH_ready (rs := [23]) (by kernel_rfl) (by simp) ?_
            refine AllReadyH.cons rfl (fun Kx hK => ?_) AllReadyH.nil
            refine step_append_room (by rfl) _ _ _ (by rfl) 34 i0 1 Yba.underlying22 hi0 hz1 kb 0 k kp (by rfl)
              ⟨w6.heap.size, 0, none⟩ 1 1 [.int .u64 ((Lf k : Int) * 3 + 1)] (by rfl) (by rfl) (World.news_of_block (cs := #[.int .u64 ((Lf k : Int) * 3 + 1)]) (t := 34) (fr := (0, 0)) (heap_alloc_new w6 _)) (by simp [Value.oneCell'])
              (by omega) (fun j hj => spare_one AK.out.key hkn _ j hj) ?_
            rw [setCells_one']
            refine hK.out _ _ (by go_keep) (fun hHeld => ?_)
            clear hK Kx
            simp only [Act.put]
            refine take_one 24 191 (.pointer (some ⟨sd, 0, none⟩)) rfl (by kernel_rfl) (by kernel_rfl) (by kernel_rfl) rfl (fun _ _ _ h => h) (Or.inl ⟨by rfl, fun w' hSw => by obtain ⟨s1, s2, s3, s4⟩ := hSw; go_simp⟩) hHeld ?_
            simp only [Act.put]
            refine take_one 25 192 (.pointer (some ⟨sd, 5, none⟩)) rfl (by kernel_rfl) (by kernel_rfl) (by kernel_rfl) rfl (fun _ _ _ h => h) (Or.inl ⟨by rfl, fun w' hSw => by obtain ⟨s1, s2, s3, s4⟩ := hSw; go_simp⟩) hHeld ?_
            simp only [Act.put]
            refine wpAnyH_ready (rs := [26]) (by kernel_rfl) (by simp) ?_
            refine AllReadyH.cons rfl (fun Kx hK => ?_) AllReadyH.nil
            go_simp
            refine hK.out _ _ (by go_keep) (fun hHeld => ?_)
            clear hK Kx
            refine wpAnyH_done (by kernel_rfl) ?_ _
            go_wp2
            go_roundg (n - (k + 1))
            case measure => go_light; omega
            case rel =>
              go_light
              exact ⟨k + 1, by omega, rfl, by simp, _, (AK.out.step).same ((Only.refl _ _).alloc _).drew⟩
        · have hkz : ¬ (k : Int) < (n : Int) := by omega
          have e : k = n := by omega
          subst e
          have hbx := hK.box
          have hclk := hK.clk
          have f3 := hK.side.cell (i := 3) (by omega)
          dsimp only [sideF] at f3
          have z6 := hK.side.frozen 6
          have f6 := hK.side.cell (i := 6) (by omega)
          dsimp only [sideF] at f6
          have AK : Aside (Kg w w6 k s S c sd eb sb kb kp x1 x2 Lf sbf spf usf k K') := hK
          clear hK
          go_wp2_with fail
          go_region
          go_wp2
          go_end0
          refine ⟨rfl, Lf, K', sbf, spf, usf, AK.out.fin.drewN 1, AP.out.1, AP.out.2, AK.out.done, (AK.out.only.setCell (.inl (by simp)) _).drew⟩
end Go.Proofs.Ybulkdaoq

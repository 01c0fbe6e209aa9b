import Derived.Test.YbulkdaoqHeap
import Derived.Test.YbulkdaoqAt
import Derived.Test.YbulkdaoqShelf
import Derived.Deep.RegionHeld3
namespace Go.Proofs.Ybulkdaoq
open Go.RowKit

/-- A slice over the head of a block. -/
abbrev sc (b n c : Nat) : Value := .slice (some ⟨b, 0, none⟩) n c

/-- The cells of the entries: five an entry. -/
def eCell (S : Nat → ByteArray) (j : Nat) : Value :=
  if j % 5 = 0 then .string (S (j / 5)) else if j % 5 = 1 then .int .u64 (((j / 5 : Nat) : Int) * 3 + 1) else if j % 5 = 2 then .int .u64 1 else if j % 5 = 3 then .int .u64 0 else .int .i64 0

theorem eCell_id (S : Nat → ByteArray) (i : Nat) : eCell S (i * 5) = .string (S i) := by
  have h1 : i * 5 % 5 = 0 := by omega
  have h2 : i * 5 / 5 = i := by omega
  simp [eCell]
theorem eCell_key (S : Nat → ByteArray) (i : Nat) : eCell S (i * 5 + 1) = .int .u64 ((i : Int) * 3 + 1) := by
  have h1 : (i * 5 + 1) % 5 = 1 := by omega
  have h2 : (i * 5 + 1) / 5 = i := by omega
  simp only [eCell, h1, h2]
  rfl

/-- The cells of the sides. -/
def sideF (x1 x2 sv us kv : Value) (eb n s : Nat) : Nat → Value
  | 0 => sc eb n n
  | 1 => x1
  | 2 => x2
  | 3 => sv
  | 4 => us
  | 5 => kv
  | _ => .int .i64 (s : Int)

/-- THE CLOCK IN MEMORY: n entries, s of them settled; the places in 'sorted' are L, the keys K. -/
structure St (w : World) (n s : Nat) (S : Nat → ByteArray) (L : Nat → Nat) (K : Nat → Int) (c sd eb sb kb sp kp : Nat) (x1 x2 us : Value) : Prop where
  clk : w.cell? ⟨c, 4, none⟩ = some (.pointer (some ⟨sd, 0, none⟩))
  side : Rw w sd 7 (sideF x1 x2 (sc sb n sp) us (sc kb s kp) eb n s)
  ent : Rw w eb (5 * n) (eCell S)
  srt : Rw w sb n (fun i => .int .i64 (L i : Int))
  key : Rw w kb n (fun i => .int .u64 (K i))
  cap : n ≤ sp ∧ n ≤ kp
  lt : c < w.heap.size
  ne : c ≠ sd ∧ c ≠ eb ∧ c ≠ sb ∧ c ≠ kb ∧ sd ≠ eb ∧ sd ≠ sb ∧ sd ≠ kb ∧ eb ≠ sb ∧ eb ≠ kb ∧ sb ≠ kb

namespace St
variable {w w1 : World} {n s : Nat} {S : Nat → ByteArray} {L : Nat → Nat} {K : Nat → Int} {c sd eb sb kb sp kp : Nat} {x1 x2 us : Value}
theorem f0 (h : St w n s S L K c sd eb sb kb sp kp x1 x2 us) : w.cell? ⟨sd, 0, none⟩ = some (sc eb n n) := h.side.cell (i := 0) (by omega)
theorem f3 (h : St w n s S L K c sd eb sb kb sp kp x1 x2 us) : w.cell? ⟨sd, 3, none⟩ = some (sc sb n sp) := h.side.cell (i := 3) (by omega)
theorem f4 (h : St w n s S L K c sd eb sb kb sp kp x1 x2 us) : w.cell? ⟨sd, 4, none⟩ = some us := h.side.cell (i := 4) (by omega)
theorem f5 (h : St w n s S L K c sd eb sb kb sp kp x1 x2 us) : w.cell? ⟨sd, 5, none⟩ = some (sc kb s kp) := h.side.cell (i := 5) (by omega)
theorem f6 (h : St w n s S L K c sd eb sb kb sp kp x1 x2 us) : w.cell? ⟨sd, 6, none⟩ = some (.int .i64 (s : Int)) := h.side.cell (i := 6) (by omega)
theorem id (h : St w n s S L K c sd eb sb kb sp kp x1 x2 us) {i : Nat} (hi : i < n) : w.cell? ⟨eb, i * 5, none⟩ = some (.string (S i)) := by
  rw [h.ent.cell (i := i * 5) (by omega), eCell_id]
theorem ek (h : St w n s S L K c sd eb sb kb sp kp x1 x2 us) {i : Nat} (hi : i < n) : w.cell? ⟨eb, i * 5 + 1, none⟩ = some (.int .u64 ((i : Int) * 3 + 1)) := by
  rw [h.ent.cell (i := i * 5 + 1) (by omega), eCell_key]
theorem only {bs : List Nat} (h : St w n s S L K c sd eb sb kb sp kp x1 x2 us) (o : Only bs w w1) (h1 : c ∉ bs) (h2 : sd ∉ bs) (h3 : eb ∉ bs) (h4 : sb ∉ bs) (h5 : kb ∉ bs) : St w1 n s S L K c sd eb sb kb sp kp x1 x2 us :=
  ⟨by rw [World.cell?_of_block (a := ⟨c, 4, none⟩) (o.block c h.lt h1)]; exact h.clk, o.rw h.side h2, o.rw h.ent h3, o.rw h.srt h4, o.rw h.key h5, h.cap, Nat.lt_of_lt_of_le h.lt o.size, h.ne⟩
theorem same (h : St w n s S L K c sd eb sb kb sp kp x1 x2 us) (o : Only [] w w1) : St w1 n s S L K c sd eb sb kb sp kp x1 x2 us :=
  h.only o (by simp) (by simp) (by simp) (by simp) (by simp)
theorem drewN (h : St w n s S L K c sd eb sb kb sp kp x1 x2 us) (m : Nat) : St (w.drewN m) n s S L K c sd eb sb kb sp kp x1 x2 us :=
  ⟨h.clk, h.side, h.ent, h.srt, h.key, h.cap, h.lt, h.ne⟩
end St

/-- An argument's cells in a later world. -/
theorem IsRowF.later {α : Type} {mk : α → Value} {w w1 : World} {a : Option Addr} {len cap : Nat} {f : Nat → α} (h : IsRowF mk w a len cap f) (hb : Below w.heap.size w w1) : IsRowF mk w1 a len cap f := by
  obtain ⟨h1, h2, h3⟩ := h
  refine ⟨h1, h2, fun h0 => ?_⟩
  obtain ⟨b, off, ha, hbl, hc⟩ := h3 h0
  exact ⟨b, off, ha, Nat.lt_of_lt_of_le hbl hb.size, fun i hi => (hb.cell (p := ⟨b, off + i, none⟩) hbl).trans (hc i hi)⟩

set_option maxHeartbeats 1000000 in
set_option maxRecDepth 100000 in
/-- zzs5099centries: the entries are the ids'. -/
theorem entries_calls (a : Option Addr) (n cap s : Nat) (S : Nat → ByteArray) (L : Nat → Nat) (K : Nat → Int) (c sd eb sb kb sp kp : Nat) (x1 x2 us : Value) (w : World)
    (h : St w n s S L K c sd eb sb kb sp kp x1 x2 us) (hn : n ≤ 300) (ha : IsRowF Value.string w a n cap S) :
    Calls Yba.prog 15 #[.pointer (some ⟨c, 0, none⟩), .slice a n cap] w fun e w' => e = .returned (.bool true) ∧ ∃ q, w' = w.drewN q := by
  have hclk := h.clk
  have f0 := h.f0
  have AH : Aside (St w n s S L K c sd eb sb kb sp kp x1 x2 us) := h
  have AA : Aside (IsRowF Value.string w a n cap S) := ha
  clear h ha
  go_enter Yba.func15, Yba.ntmps15
  go_wp2
  go_loopg [5] n (fun g i wr => ∃ k : Nat, k ≤ n ∧ g = n - k ∧ i = .int .i64 k ∧ ∃ q, wr = w.drewN q)
  case atStart => exact ⟨0, Nat.zero_le _, rfl, rfl, 0, rfl⟩
  case round =>
    obtain ⟨k, hk, rfl, rfl, q, rfl⟩ := hrel
    by_cases hkn : k < n
    · have hkz : (k : Int) < (n : Int) := by omega
      have hkz0 : (0 : Int) ≤ (k : Int) := by omega
      obtain ⟨b, off, rfl, hbl, hc⟩ := AA.out.2.2 (by omega)
      have cs := hc k hkn
      have ci := AH.out.id hkn
      have ck := AH.out.ek hkn
      clear hc
      go_wp2_with fail
      go_quiet (fail)
      go_wp2
      go_roundg (n - (k + 1))
      case measure => go_light; omega
      case rel => go_light; exact ⟨k + 1, by omega, rfl, by simp, _, rfl⟩
    · have hkz : ¬ (k : Int) < (n : Int) := by omega
      go_wp2
      go_ret
      exact ⟨rfl, q, rfl⟩

end Go.Proofs.Ybulkdaoq

import Derived.Test.Qxb6600092aRows
import Derived.WalkKit
import Derived.Deep.OwnRows
import Derived.Maps.OwnSet
namespace Go.Proofs.Qxb6600092a
open Go.RowKit
set_option linter.unusedVariables false

/-- The zero Column's cells. -/
def zc (j : Nat) : Value := match j with | 0 => .string ByteArray.empty | 3 => .bool false | _ => .int .i64 0
/-- What the cells of a row of columns hold once the first k IDs are laid. -/
def colCell (zs : List Int) (k j : Nat) : Value := if j % 5 = 4 ∧ j / 5 < k then .int .i64 (zs.getD (j / 5) 0) else zc (j % 5)

theorem Try.info53 : (Try.prog.info? 53).map (fun i => (i.zero, i.size, i.bytes)) = some (some (.agg #[.string ByteArray.empty, .int .i64 0, .int .i64 0, .bool false, .int .i64 0]), 5, 48) := by kernel_rfl
theorem Try.info3 : (Try.prog.info? 3).map (fun i => (i.zero, i.size, i.bytes)) = some (some (.int .i64 0), 1, 8) := by kernel_rfl

theorem made_row {w w' : World} {n : Nat} (hb : w'.ownsRow w.heap.size 53 5 (.slice (some ⟨w.heap.size, 0, none⟩) n n) n (madeCells (Value.agg #[.string ByteArray.empty, .int .i64 0, .int .i64 0, .bool false, .int .i64 0]).cells (n * 5)).toList) (zs : List Int) :
    w'.rowIs w.heap.size 53 (n * 5) (colCell zs 0) := by
  obtain ⟨h1, h2⟩ := hb
  rcases h2 with ⟨h, _⟩ | ⟨g, cap, cur, hv, hg, hh, hn, hc, hs, ht⟩
  · cases h
  · simp only [Value.slice.injEq, Option.some.injEq, Addr.mk.injEq, and_true, true_and] at hv
    obtain ⟨rfl, rfl⟩ := hv
    refine ⟨cur, hh, hs, fun i hi => ?_⟩
    have e : cur.toList = (madeCells (Value.agg #[.string ByteArray.empty, .int .i64 0, .int .i64 0, .bool false, .int .i64 0]).cells (n * 5)).toList := by
      rw [← ht, List.take_of_length_le (by simp [hs])]
    have e2 : cur = madeCells (Value.agg #[.string ByteArray.empty, .int .i64 0, .int .i64 0, .bool false, .int .i64 0]).cells (n * 5) := Array.toList_inj.1 e
    rw [e2]
    have h5 : i % 5 = 0 ∨ i % 5 = 1 ∨ i % 5 = 2 ∨ i % 5 = 3 ∨ i % 5 = 4 := by omega
    rcases h5 with h | h | h | h | h <;> simp [madeCells, Value.cells, hi, colCell, h, zc]

theorem col_step {w : World} {B n k : Nat} {zs : List Int} (h : w.rowIs B 53 n (colCell zs k)) :
    (w.setCell ⟨B, k * 5 + 4, none⟩ (.int .i64 (zs[k]?.getD 0))).rowIs B 53 n (colCell zs (k + 1)) := by
  refine (h.set (k * 5 + 4) _).congr fun i hi => ?_
  unfold colCell
  by_cases e : i = k * 5 + 4
  · subst e
    have e1 : (k * 5 + 4) / 5 = k := by omega
    have e2 : (k * 5 + 4) % 5 = 4 := by omega
    simp [e1, e2]
  · have e3 : (i % 5 = 4 ∧ i / 5 < k) ↔ (i % 5 = 4 ∧ i / 5 < k + 1) := by omega
    simp only [e, if_false, e3]

set_option maxRecDepth 100000 in
set_option maxHeartbeats 400000 in
theorem cols_pos (b off len cap : Nat) (zs : List Int) (w : World) (hb : b < w.heap.size) (hlen : len ≤ 65536)
    (hc : ∀ j, j < len → w.cell? ⟨b, off + j, none⟩ = some (.int .i64 (zs.getD j 0))) :
    Calls Try.prog 9 #[.slice (some ⟨b, off, none⟩) len cap] w fun e w' => e = .returned (.slice (some ⟨w.heap.size, 0, none⟩) len len) ∧
      w'.rowIs w.heap.size 53 (len * 5) (colCell zs len) ∧ Below w.heap.size w w' := by
  obtain ⟨i0, hi, hz0, hz1, hz2⟩ := info_parts Try.info53
  go_enter Try.func9, Try.ntmps9
  go_wp2_with (at_make; refine wpList_make_full _ rfl _ _ 25 rfl w.heap.size 53 i0 _ 5 Try.underlying25 hi hz0 hz1 .i64 .i64 _ _ len rfl rfl rfl rfl (by rw [hz2]; omega) (by unfold maxLen; omega) (Nat.le_refl _) ?_; intro w1 hown1 hgrow1)
  have hrow := made_row hown1 zs
  have hbel : Below w.heap.size w w1 := (Below.refl _ _).grown hgrow1 (Nat.le_refl _) (fun k hk => by cases hk)
  clear hown1 hgrow1
  go_loopw [4] (fun i wr => ∃ k : Nat, k ≤ len ∧ i = .int .i64 k ∧ wr.rowIs w.heap.size 53 (len * 5) (colCell zs k) ∧ Below w.heap.size w wr)
    (fun i _ => len - (intOf i).toNat)
  case atStart => exact ⟨0, Nat.zero_le _, rfl, hrow, hbel⟩
  case round =>
    obtain ⟨k, hk, rfl, hr, hnx⟩ := hrel
    clear hrow hbel
    by_cases hlt : k < len
    · have hcx : wr.cell? ⟨b, off + k, none⟩ = some (.int .i64 (zs.getD k 0)) := (hnx.cell (by exact hb)).trans (hc k hlt)
      have hf := hr.frozen (k * 5 + 4)
      have hcc := hr.cell (i := k * 5 + 4) (by omega)
      go_wp2
      go_roundw
      case rel => exact ⟨k + 1, by omega, by go_num, col_step hr, hnx.setCell (Nat.le_refl _) _⟩
      case measure => simp [intOf]; omega
    · have : k = len := by omega
      subst this
      go_wp2
      go_ret
      exact ⟨rfl, hr, hnx⟩

set_option maxRecDepth 100000 in
set_option maxHeartbeats 400000 in
theorem cols_zero (a : Option Addr) (cap : Nat) (zs : List Int) (w : World) :
    Calls Try.prog 9 #[.slice a 0 cap] w fun e w' => e = .returned (.slice (some ⟨w.heap.size, 0, none⟩) 0 0) ∧
      w'.rowIs w.heap.size 53 (0 * 5) (colCell zs 0) ∧ Below w.heap.size w w' := by
  obtain ⟨i0, hi, hz0, hz1, hz2⟩ := info_parts Try.info53
  go_enter Try.func9, Try.ntmps9
  go_wp2_with (at_make; refine wpList_make_full _ rfl _ _ 25 rfl w.heap.size 53 i0 _ 5 Try.underlying25 hi hz0 hz1 .i64 .i64 _ _ 0 rfl rfl rfl rfl (by rw [hz2]; omega) (by unfold maxLen; omega) (Nat.le_refl _) ?_; intro w1 hown1 hgrow1)
  have hrow := made_row hown1 zs
  have hbel : Below w.heap.size w w1 := (Below.refl _ _).grown hgrow1 (Nat.le_refl _) (fun k hk => by cases hk)
  clear hown1 hgrow1
  refine wp_loop_rounds 1 ?_
  rw [rounds_succ]
  go_wp2
  go_ret
  exact ⟨rfl, hrow, hbel⟩

/-- WHAT IS KNOWN OF A SLICE OF ints THAT CAME IN: its elements (the address is told only where there is one). -/
def InInts (w : World) (a : Option Addr) (len : Nat) (zs : List Int) : Prop :=
  len = 0 ∨ ∃ b off, a = some ⟨b, off, none⟩ ∧ b < w.heap.size ∧ ∀ j, j < len → w.cell? ⟨b, off + j, none⟩ = some (.int .i64 (zs.getD j 0))

theorem InInts.below {w w' : World} {a : Option Addr} {len : Nat} {zs : List Int} (h : InInts w a len zs) (hb : Below w.heap.size w w') : InInts w' a len zs := by
  rcases h with h | ⟨b, off, ha, hlt, hc⟩
  · exact .inl h
  · exact .inr ⟨b, off, ha, Nat.lt_of_lt_of_le hlt hb.size, fun j hj => (hb.cell (by exact hlt)).trans (hc j hj)⟩

theorem cols_any (a : Option Addr) (len cap : Nat) (zs : List Int) (w : World) (h : InInts w a len zs) (hlen : len ≤ 65536) :
    Calls Try.prog 9 #[.slice a len cap] w fun e w' => e = .returned (.slice (some ⟨w.heap.size, 0, none⟩) len len) ∧
      w'.rowIs w.heap.size 53 (len * 5) (colCell zs len) ∧ Below w.heap.size w w' := by
  rcases h with rfl | ⟨b, off, rfl, hlt, hc⟩
  · exact cols_zero a cap zs w
  · exact cols_pos b off len cap zs w hlt hlen hc
end Go.Proofs.Qxb6600092a

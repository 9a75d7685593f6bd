import Derived.Test.Qxb6600157aRows
import Derived.WalkKit
import Derived.Deep.OwnRows
import Derived.Lib.SliceRun
import Derived.Lib.Builder
import Derived.BigQuiet
import Derived.Deep.QuietTactic
namespace Go.Proofs.Qxb6600157a
open Go.RowKit
set_option linter.unusedVariables false

/-- WHAT THE WALK IS TOLD OF A SLICE OF INTEGERS THAT CAME IN: it is nil; or it leads to a row of 'cap' cells, the numbers 'zs' (the first 'len' are its elements, the rest its spare room), each fitting its kind. -/
def IsRow (k : IntKind) (w : World) (a : Option Addr) (len cap : Nat) (zs : List Int) : Prop :=
  (a = none ∧ len = 0 ∧ cap = 0 ∧ zs = []) ∨
  ∃ x, a = some x ∧ len ≤ cap ∧ cap ≤ maxLen ∧ zs.length = cap ∧ (∀ i, i < zs.length → w.cell? (x.add i) = some (.int k (zs.getD i 0))) ∧ ∀ n ∈ zs, (Lit.int k n).wf = true

theorem cell_lt {w : World} {b o : Nat} {v : Value} (h : w.cell? ⟨b, o, none⟩ = some v) : b < w.heap.size := by
  rcases Nat.lt_or_ge b w.heap.size with h1 | h1
  · exact h1
  · simp [World.cell?, Array.getElem?_eq_none h1] at h

/-- WHAT IS KNOWN OF A SLICE: its elements, one cell each (the address is told only where there is one). -/
def InF (w : World) (a : Option Addr) (len : Nat) (f : Nat → Value) : Prop :=
  len = 0 ∨ ∃ b off, a = some ⟨b, off, none⟩ ∧ b < w.heap.size ∧ ∀ j, j < len → w.cell? ⟨b, off + j, none⟩ = some (f j)

theorem InF.below {w w' : World} {a : Option Addr} {len : Nat} {f : Nat → Value} (h : InF w a len f) (hb : Below w.heap.size w w') : InF w' a len f := by
  rcases h with h | ⟨b, off, ha, hlt, hc⟩
  · exact .inl h
  · exact .inr ⟨b, off, ha, Nat.lt_of_lt_of_le hlt hb.size, fun j hj => (hb.cell (by exact hlt)).trans (hc j hj)⟩

theorem InF.row {w : World} {g t n : Nat} {f : Nat → Value} (h : w.rowIs g t n f) : InF w (some ⟨g, 0, none⟩) n f :=
  .inr ⟨g, 0, rfl, h.lt, fun j hj => by rw [Nat.zero_add]; exact h.cell hj⟩

/-- A row half copied. -/
def half (f : Nat → Value) (z : Value) (k i : Nat) : Value := if i < k then f i else z

theorem half_step {w : World} {B t n k : Nat} {f : Nat → Value} {z v : Value} (h : w.rowIs B t n (half f z k)) (hv : v = f k) : (w.setCell ⟨B, k, none⟩ v).rowIs B t n (half f z (k + 1)) := by
  subst hv
  refine (h.set k _).congr fun i hi => ?_
  unfold half
  by_cases e : i = k
  · subst e; simp
  · have e3 : i < k ↔ i < k + 1 := by omega
    simp only [e, if_false, e3]

theorem in_of {w : World} {x : Addr} {len : Nat} {f : Nat → Value} (h : ∀ i, i < len → w.cell? (x.add i) = some (f i)) : InF w (some x) len f := by
  rcases Nat.eq_zero_or_pos len with h0 | h0
  · exact .inl h0
  · have hc0 := h 0 h0
    obtain ⟨b, off, spot⟩ := x
    have hspot : spot = none := by simpa [Addr.add] using World.cell?_spot hc0
    subst hspot
    refine .inr ⟨b, off, rfl, ?_, fun j hj => by rw [← Go.WideShapes.add_plain]; exact h j hj⟩
    exact cell_lt (o := off) (by simpa [Addr.add] using hc0)

/-- What a slice of integers that came in gives. -/
theorem IsRow.ins {k : IntKind} {w : World} {a : Option Addr} {len cap : Nat} {zs : List Int} (h : IsRow k w a len cap zs) :
    InF w a len (fun j => .int k (zs.getD j 0)) ∧ len ≤ 9223372036854775807 ∧ (a = none → len = 0) ∧ (∀ n ∈ zs, (Lit.int k n).wf = true) := by
  rcases h with ⟨rfl, rfl, rfl, rfl⟩ | ⟨x, rfl, h1, h2, h3, h4, h5⟩
  · exact ⟨.inl rfl, by omega, fun _ => rfl, by simp⟩
  · exact ⟨in_of (fun i hi => h4 i (by omega)), by unfold maxLen at h2; omega, fun h => (by cases h), h5⟩

theorem Try.info3 : (Try.prog.info? 3).map (fun i => (i.zero, i.size, i.bytes)) = some (some (.int .i64 0), 1, 8) := by kernel_rfl
theorem Try.info5 : (Try.prog.info? 5).map (fun i => (i.zero, i.size, i.bytes)) = some (some (.int .u8 0), 1, 1) := by kernel_rfl
theorem Try.info25 : (Try.prog.info? 25).map (fun i => (i.zero, i.size, i.bytes)) = some (some (.int .u32 0), 1, 4) := by kernel_rfl

theorem bel_drewN {B : Nat} {a w : World} (h : Below B a w) (n : Nat) : Below B a (w.drewN n) := ⟨h.os, h.tape, h.output, h.size, h.block⟩
theorem rowIs_drewN {w : World} {b t n : Nat} {f : Nat → Value} (h : w.rowIs b t n f) (k : Nat) : (w.drewN k).rowIs b t n f := h

set_option maxRecDepth 100000 in
set_option maxHeartbeats 400000 in
theorem cloneI (a : Option Addr) (len cap : Nat) (zs : Nat → Int) (w : World) (h : InF w a len (fun j => .int .i64 (zs j))) (h0 : a = none → len = 0) (hlen : len ≤ 65536) :
    Calls Try.prog 11 #[.slice a len cap] w fun e w' => ∃ a' c', e = .returned (.slice a' len c') ∧ InF w' a' len (fun j => .int .i64 (zs j)) ∧ Below w.heap.size w w' := by
  cases a with
  | none =>
    have := h0 rfl
    subst this
    have heq : ∀ wx, (binOp .eql 22 (.slice none 0 cap) (.slice none 0 0)).run Try.prog wx = _ := fun wx => Lib.run_eql_slice_nil (P := Try.prog) wx 22 3 none 0 cap 0 0 Try.underlying22
    go_enter Try.func11, Try.ntmps11
    go_wp2
    go_ret
    exact ⟨none, ⟨0, rfl⟩, .inl rfl, Below.refl _ _⟩
  | some x =>
    have hmk := run_make_row' (P := Try.prog) 22 3 (.int .i64 0) 8 Try.underlying22 Try.info3 rfl .i64 .i64 len (by omega) (by omega)
    have hrow := World.rowIs_made w (.int .i64 0) len 3
    have heq : ∀ wx, (binOp .eql 22 (.slice (some x) len cap) (.slice none 0 0)).run Try.prog wx = _ := fun wx => Lib.run_eql_slice_nil (P := Try.prog) wx 22 3 (some x) len cap 0 0 Try.underlying22
    go_enter Try.func11, Try.ntmps11
    go_wp2
    go_loopw [4] (fun i wr => ∃ k : Nat, k ≤ len ∧ i = .int .i64 k ∧ wr.rowIs w.heap.size 3 len (half (fun j => .int .i64 (zs j)) (.int .i64 0) k) ∧ Below w.heap.size w wr) (fun i _ => len - (intOf i).toNat)
    case atStart => exact ⟨0, Nat.zero_le _, rfl, hrow.congr (fun i _ => by simp [half]), (Below.refl _ _).alloc (Nat.le_refl _) _⟩
    case round =>
      obtain ⟨k, hk, rfl, hr, hb⟩ := hrel
      clear hmk hrow
      by_cases hlt : k < len
      · obtain ⟨b, off, hx, hbl, hc⟩ := h.resolve_left (by omega)
        injection hx with hx
        subst hx
        have x0 : wr.cell? ⟨b, off + k, none⟩ = some (.int .i64 (zs k)) := (hb.cell (by exact hbl)).trans (hc k hlt)
        have x1 := hr.cell hlt
        have x2 := hr.frozen k
        go_wp2
        go_roundw
        case rel => exact ⟨k + 1, by omega, by go_num, half_step hr rfl, hb.setCell (Nat.le_refl _) _⟩
        case measure => simp [intOf]; omega
      · have : k = len := by omega
        subst this
        go_wp2
        go_ret
        exact ⟨_, _, rfl, InF.row (hr.congr (fun i hi => by simp [half, hi])), hb⟩

set_option maxRecDepth 100000 in
set_option maxHeartbeats 400000 in
theorem cloneU8 (a : Option Addr) (len cap : Nat) (zs : Nat → Int) (w : World) (h : InF w a len (fun j => .int .u8 (zs j))) (h0 : a = none → len = 0) (hlen : len ≤ 65536) :
    Calls Try.prog 12 #[.slice a len cap] w fun e w' => ∃ a' c', e = .returned (.slice a' len c') ∧ InF w' a' len (fun j => .int .u8 (zs j)) ∧ Below w.heap.size w w' := by
  cases a with
  | none =>
    have := h0 rfl
    subst this
    have heq : ∀ wx, (binOp .eql 23 (.slice none 0 cap) (.slice none 0 0)).run Try.prog wx = _ := fun wx => Lib.run_eql_slice_nil (P := Try.prog) wx 23 5 none 0 cap 0 0 Try.underlying23
    go_enter Try.func12, Try.ntmps12
    go_wp2
    go_ret
    exact ⟨none, ⟨0, rfl⟩, .inl rfl, Below.refl _ _⟩
  | some x =>
    have hmk := run_make_row' (P := Try.prog) 23 5 (.int .u8 0) 1 Try.underlying23 Try.info5 rfl .i64 .i64 len (by omega) (by omega)
    have hrow := World.rowIs_made w (.int .u8 0) len 5
    have heq : ∀ wx, (binOp .eql 23 (.slice (some x) len cap) (.slice none 0 0)).run Try.prog wx = _ := fun wx => Lib.run_eql_slice_nil (P := Try.prog) wx 23 5 (some x) len cap 0 0 Try.underlying23
    go_enter Try.func12, Try.ntmps12
    go_wp2
    go_loopw [4] (fun i wr => ∃ k : Nat, k ≤ len ∧ i = .int .i64 k ∧ wr.rowIs w.heap.size 5 len (half (fun j => .int .u8 (zs j)) (.int .u8 0) k) ∧ Below w.heap.size w wr) (fun i _ => len - (intOf i).toNat)
    case atStart => exact ⟨0, Nat.zero_le _, rfl, hrow.congr (fun i _ => by simp [half]), (Below.refl _ _).alloc (Nat.le_refl _) _⟩
    case round =>
      obtain ⟨k, hk, rfl, hr, hb⟩ := hrel
      clear hmk hrow
      by_cases hlt : k < len
      · obtain ⟨b, off, hx, hbl, hc⟩ := h.resolve_left (by omega)
        injection hx with hx
        subst hx
        have x0 : wr.cell? ⟨b, off + k, none⟩ = some (.int .u8 (zs k)) := (hb.cell (by exact hbl)).trans (hc k hlt)
        have x1 := hr.cell hlt
        have x2 := hr.frozen k
        go_wp2
        go_roundw
        case rel => exact ⟨k + 1, by omega, by go_num, half_step hr rfl, hb.setCell (Nat.le_refl _) _⟩
        case measure => simp [intOf]; omega
      · have : k = len := by omega
        subst this
        go_wp2
        go_ret
        exact ⟨_, _, rfl, InF.row (hr.congr (fun i hi => by simp [half, hi])), hb⟩

set_option maxRecDepth 100000 in
set_option maxHeartbeats 400000 in
theorem cloneU32 (a : Option Addr) (len cap : Nat) (zs : Nat → Int) (w : World) (h : InF w a len (fun j => .int .u32 (zs j))) (h0 : a = none → len = 0) (hlen : len ≤ 65536) :
    Calls Try.prog 13 #[.slice a len cap] w fun e w' => ∃ a' c', e = .returned (.slice a' len c') ∧ InF w' a' len (fun j => .int .u32 (zs j)) ∧ Below w.heap.size w w' := by
  cases a with
  | none =>
    have := h0 rfl
    subst this
    have heq : ∀ wx, (binOp .eql 24 (.slice none 0 cap) (.slice none 0 0)).run Try.prog wx = _ := fun wx => Lib.run_eql_slice_nil (P := Try.prog) wx 24 25 none 0 cap 0 0 Try.underlying24
    go_enter Try.func13, Try.ntmps13
    go_wp2
    go_ret
    exact ⟨none, ⟨0, rfl⟩, .inl rfl, Below.refl _ _⟩
  | some x =>
    have hmk := run_make_row' (P := Try.prog) 24 25 (.int .u32 0) 4 Try.underlying24 Try.info25 rfl .i64 .i64 len (by omega) (by omega)
    have hrow := World.rowIs_made w (.int .u32 0) len 25
    have heq : ∀ wx, (binOp .eql 24 (.slice (some x) len cap) (.slice none 0 0)).run Try.prog wx = _ := fun wx => Lib.run_eql_slice_nil (P := Try.prog) wx 24 25 (some x) len cap 0 0 Try.underlying24
    go_enter Try.func13, Try.ntmps13
    go_wp2
    go_loopw [4] (fun i wr => ∃ k : Nat, k ≤ len ∧ i = .int .i64 k ∧ wr.rowIs w.heap.size 25 len (half (fun j => .int .u32 (zs j)) (.int .u32 0) k) ∧ Below w.heap.size w wr) (fun i _ => len - (intOf i).toNat)
    case atStart => exact ⟨0, Nat.zero_le _, rfl, hrow.congr (fun i _ => by simp [half]), (Below.refl _ _).alloc (Nat.le_refl _) _⟩
    case round =>
      obtain ⟨k, hk, rfl, hr, hb⟩ := hrel
      clear hmk hrow
      by_cases hlt : k < len
      · obtain ⟨b, off, hx, hbl, hc⟩ := h.resolve_left (by omega)
        injection hx with hx
        subst hx
        have x0 : wr.cell? ⟨b, off + k, none⟩ = some (.int .u32 (zs k)) := (hb.cell (by exact hbl)).trans (hc k hlt)
        have x1 := hr.cell hlt
        have x2 := hr.frozen k
        go_wp2
        go_roundw
        case rel => exact ⟨k + 1, by omega, by go_num, half_step hr rfl, hb.setCell (Nat.le_refl _) _⟩
        case measure => simp [intOf]; omega
      · have : k = len := by omega
        subst this
        go_wp2
        go_ret
        exact ⟨_, _, rfl, InF.row (hr.congr (fun i hi => by simp [half, hi])), hb⟩

end Go.Proofs.Qxb6600157a

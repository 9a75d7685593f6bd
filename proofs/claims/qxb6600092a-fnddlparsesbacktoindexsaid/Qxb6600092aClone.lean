import Derived.Test.Qxb6600092aIn
import Derived.Lib.SliceRun
namespace Go.Proofs.Qxb6600092a
open Go.RowKit
set_option linter.unusedVariables false

/-- WHAT IS KNOWN OF A SLICE: its elements, one cell each (the address is told only where there is one). -/
def InF (w : World) (a : Option Addr) (len : Nat) (f : Nat → Value) : Prop :=
  len = 0 ∨ ∃ b off, a = some ⟨b, off, none⟩ ∧ b < w.heap.size ∧ ∀ j, j < len → w.cell? ⟨b, off + j, none⟩ = some (f j)

theorem InF.below {w w' : World} {a : Option Addr} {len : Nat} {f : Nat → Value} (h : InF w a len f) (hb : Below w.heap.size w w') : InF w' a len f := by
  rcases h with h | ⟨b, off, ha, hlt, hc⟩
  · exact .inl h
  · exact .inr ⟨b, off, ha, Nat.lt_of_lt_of_le hlt hb.size, fun j hj => (hb.cell (by exact hlt)).trans (hc j hj)⟩

theorem InF.row {w : World} {g t n : Nat} {f : Nat → Value} (h : w.rowIs g t n f) : InF w (some ⟨g, 0, none⟩) n f :=
  .inr ⟨g, 0, rfl, h.lt, fun j hj => by rw [Nat.zero_add]; exact h.cell hj⟩

/-- A row half copied. -/
def half (f : Nat → Value) (z : Value) (k i : Nat) : Value := if i < k then f i else z

theorem half_step {w : World} {B t n k : Nat} {f : Nat → Value} {z v : Value} (h : w.rowIs B t n (half f z k)) (hv : v = f k) : (w.setCell ⟨B, k, none⟩ v).rowIs B t n (half f z (k + 1)) := by
  subst hv
  refine (h.set k _).congr fun i hi => ?_
  unfold half
  by_cases e : i = k
  · subst e; simp
  · have e3 : i < k ↔ i < k + 1 := by omega
    simp only [e, if_false, e3]

theorem Try.info4b : (Try.prog.info? 4).map (fun i => (i.zero, i.size, i.bytes)) = some (some (.bool false), 1, 1) := by kernel_rfl

set_option maxRecDepth 100000 in
set_option maxHeartbeats 400000 in
theorem cloneI (a : Option Addr) (len cap : Nat) (zs : Nat → Int) (w : World) (h : InF w a len (fun j => .int .i64 (zs j))) (h0 : a = none → len = 0) (hlen : len ≤ 65536) :
    Calls Try.prog 18 #[.slice a len cap] w fun e w' => ∃ a' c', e = .returned (.slice a' len c') ∧ InF w' a' len (fun j => .int .i64 (zs j)) ∧ Below w.heap.size w w' := by
  cases a with
  | none =>
    have := h0 rfl
    subst this
    have heq : ∀ wx, (binOp .eql 22 (.slice none 0 cap) (.slice none 0 0)).run Try.prog wx = _ := fun wx => Lib.run_eql_slice_nil (P := Try.prog) wx 22 3 none 0 cap 0 0 Try.underlying22
    go_enter Try.func18, Try.ntmps18
    go_wp2
    go_ret
    exact ⟨none, ⟨0, rfl⟩, .inl rfl, Below.refl _ _⟩
  | some x =>
    have hmk := run_make_row' (P := Try.prog) 22 3 (.int .i64 0) 8 Try.underlying22 Try.info3 rfl .i64 .i64 len (by omega) (by omega)
    have hrow := World.rowIs_made w (.int .i64 0) len 3
    have heq : ∀ wx, (binOp .eql 22 (.slice (some x) len cap) (.slice none 0 0)).run Try.prog wx = _ := fun wx => Lib.run_eql_slice_nil (P := Try.prog) wx 22 3 (some x) len cap 0 0 Try.underlying22
    go_enter Try.func18, Try.ntmps18
    go_wp2
    go_loopw [4] (fun i wr => ∃ k : Nat, k ≤ len ∧ i = .int .i64 k ∧ wr.rowIs w.heap.size 3 len (half (fun j => .int .i64 (zs j)) (.int .i64 0) k) ∧ Below w.heap.size w wr) (fun i _ => len - (intOf i).toNat)
    case atStart => exact ⟨0, Nat.zero_le _, rfl, hrow.congr (fun i _ => by simp [half]), (Below.refl _ _).alloc (Nat.le_refl _) _⟩
    case round =>
      obtain ⟨k, hk, rfl, hr, hb⟩ := hrel
      clear hmk hrow
      by_cases hlt : k < len
      · obtain ⟨b, off, hx, hbl, hc⟩ := h.resolve_left (by omega)
        injection hx with hx
        subst hx
        have x0 : wr.cell? ⟨b, off + k, none⟩ = some (.int .i64 (zs k)) := (hb.cell (by exact hbl)).trans (hc k hlt)
        have x1 := hr.cell hlt
        have x2 := hr.frozen k
        go_wp2
        go_roundw
        case rel => exact ⟨k + 1, by omega, by go_num, half_step hr rfl, hb.setCell (Nat.le_refl _) _⟩
        case measure => simp [intOf]; omega
      · have : k = len := by omega
        subst this
        go_wp2
        go_ret
        exact ⟨_, _, rfl, InF.row (hr.congr (fun i hi => by simp [half, hi])), hb⟩

set_option maxRecDepth 100000 in
set_option maxHeartbeats 400000 in
theorem cloneB (a : Option Addr) (len cap : Nat) (zs : Nat → Bool) (w : World) (h : InF w a len (fun j => .bool (zs j))) (h0 : a = none → len = 0) (hlen : len ≤ 65536) :
    Calls Try.prog 19 #[.slice a len cap] w fun e w' => ∃ a' c', e = .returned (.slice a' len c') ∧ InF w' a' len (fun j => .bool (zs j)) ∧ Below w.heap.size w w' := by
  cases a with
  | none =>
    have := h0 rfl
    subst this
    have heq : ∀ wx, (binOp .eql 27 (.slice none 0 cap) (.slice none 0 0)).run Try.prog wx = _ := fun wx => Lib.run_eql_slice_nil (P := Try.prog) wx 27 4 none 0 cap 0 0 Try.underlying27
    go_enter Try.func19, Try.ntmps19
    go_wp2
    go_ret
    exact ⟨none, ⟨0, rfl⟩, .inl rfl, Below.refl _ _⟩
  | some x =>
    have hmk := run_make_row' (P := Try.prog) 27 4 (.bool false) 1 Try.underlying27 Try.info4b rfl .i64 .i64 len (by omega) (by omega)
    have hrow := World.rowIs_made w (.bool false) len 4
    have heq : ∀ wx, (binOp .eql 27 (.slice (some x) len cap) (.slice none 0 0)).run Try.prog wx = _ := fun wx => Lib.run_eql_slice_nil (P := Try.prog) wx 27 4 (some x) len cap 0 0 Try.underlying27
    go_enter Try.func19, Try.ntmps19
    go_wp2
    go_loopw [4] (fun i wr => ∃ k : Nat, k ≤ len ∧ i = .int .i64 k ∧ wr.rowIs w.heap.size 4 len (half (fun j => .bool (zs j)) (.bool false) k) ∧ Below w.heap.size w wr) (fun i _ => len - (intOf i).toNat)
    case atStart => exact ⟨0, Nat.zero_le _, rfl, hrow.congr (fun i _ => by simp [half]), (Below.refl _ _).alloc (Nat.le_refl _) _⟩
    case round =>
      obtain ⟨k, hk, rfl, hr, hb⟩ := hrel
      clear hmk hrow
      by_cases hlt : k < len
      · obtain ⟨b, off, hx, hbl, hc⟩ := h.resolve_left (by omega)
        injection hx with hx
        subst hx
        have x0 : wr.cell? ⟨b, off + k, none⟩ = some (.bool (zs k)) := (hb.cell (by exact hbl)).trans (hc k hlt)
        have x1 := hr.cell hlt
        have x2 := hr.frozen k
        go_wp2
        go_roundw
        case rel => exact ⟨k + 1, by omega, by go_num, half_step hr rfl, hb.setCell (Nat.le_refl _) _⟩
        case measure => simp [intOf]; omega
      · have : k = len := by omega
        subst this
        go_wp2
        go_ret
        exact ⟨_, _, rfl, InF.row (hr.congr (fun i hi => by simp [half, hi])), hb⟩

/-- The columns of a table whose first k names are laid. -/
def nmCell (nm : Nat → ByteArray) (k j : Nat) : Value := if j % 5 = 0 ∧ j / 5 < k then .string (nm (j / 5)) else zc (j % 5)

theorem nm_step {w : World} {B n k : Nat} {nm : Nat → ByteArray} (h : w.rowIs B 53 n (nmCell nm k)) : (w.setCell ⟨B, k * 5, none⟩ (.string (nm k))).rowIs B 53 n (nmCell nm (k + 1)) := by
  refine (h.set (k * 5) _).congr fun i hi => ?_
  unfold nmCell
  by_cases e : i = k * 5
  · subst e
    have e1 : (k * 5) / 5 = k := by omega
    have e2 : (k * 5) % 5 = 0 := by omega
    simp [e1, e2]
  · have e3 : (i % 5 = 0 ∧ i / 5 < k) ↔ (i % 5 = 0 ∧ i / 5 < k + 1) := by omega
    simp only [e, if_false, e3]

/-- AN INDEX IN MEMORY. -/
structure Idx (w : World) (p q T m : Nat) (n t : ByteArray) (u : Bool) (v4 v5 v6 : Value) (nm : Nat → ByteArray) : Prop where
  ltp : p < w.heap.size
  ltq : q < w.heap.size
  ltT : T < w.heap.size
  p0 : w.cell? ⟨p, 0, none⟩ = some (.string n)
  p1 : w.cell? ⟨p, 1, none⟩ = some (.pointer (some ⟨q, 0, none⟩))
  p2 : w.cell? ⟨p, 2, none⟩ = some (.bool u)
  p3 : w.cell? ⟨p, 3, none⟩ = some v4
  p4 : w.cell? ⟨p, 4, none⟩ = some v5
  p5 : w.cell? ⟨p, 5, none⟩ = some v6
  q0 : w.cell? ⟨q, 0, none⟩ = some (.string t)
  q2 : w.cell? ⟨q, 2, none⟩ = some (.slice (some ⟨T, 0, none⟩) m m)
  nam : ∀ i, i < m → w.cell? ⟨T, i * 5, none⟩ = some (.string (nm i))

theorem idx_new {wr : World} {T m : Nat} {nm : Nat → ByteArray} {n t : ByteArray} {u : Bool} {v4 v5 v6 : Value} (hr : wr.rowIs T 53 (m * 5) (nmCell nm m)) {x1 x3 x4 x5 x6 x7 x8 y6 y7 y8 : Value} :
    Idx ((wr.alloc (.cells #[.string t, x1, .slice (some ⟨T, 0, none⟩) m m, x3, x4, x5, x6, x7, x8] 32)).alloc (.cells #[.string n, .pointer (some ⟨wr.heap.size, 0, none⟩), .bool u, v4, v5, v6, y6, y7, y8] 58)) (wr.heap.size + 1) wr.heap.size T m n t u v4 v5 v6 nm := by
  obtain ⟨W1, hW1⟩ : ∃ W, W = wr.alloc (.cells #[.string t, x1, .slice (some ⟨T, 0, none⟩) m m, x3, x4, x5, x6, x7, x8] 32) := ⟨_, rfl⟩
  have hz : W1.heap.size = wr.heap.size + 1 := by rw [hW1]; simp
  have c0 : W1.cell? ⟨wr.heap.size, 0, none⟩ = some (.string t) := by rw [hW1]; simp
  have c2 : W1.cell? ⟨wr.heap.size, 2, none⟩ = some (.slice (some ⟨T, 0, none⟩) m m) := by rw [hW1]; simp
  have r1 : W1.rowIs T 53 (m * 5) (nmCell nm m) := by rw [hW1]; exact hr.alloc _
  rw [← hW1, ← hz]
  have hl := r1.lt
  have old : ∀ (o : Obj) (b k : Nat), b < W1.heap.size → (W1.alloc o).cell? ⟨b, k, none⟩ = W1.cell? ⟨b, k, none⟩ := fun o b k h => World.cell?_alloc_lt _ _ _ h
  refine ⟨by simp, by simp; omega, by simp; omega, by simp, by simp, by simp, by simp, by simp, by simp, ?_, ?_, ?_⟩
  · rw [old _ _ _ (by omega)]; exact c0
  · rw [old _ _ _ (by omega)]; exact c2
  · intro i hi
    rw [old _ _ _ hl, r1.cell (by omega)]
    have e1 : (i * 5) % 5 = 0 := by omega
    have e2 : (i * 5) / 5 = i := by omega
    simp [nmCell, e1, e2, hi]

set_option maxRecDepth 100000 in
set_option maxHeartbeats 400000 in
theorem build_any (n t : ByteArray) (a : Option Addr) (m cap : Nat) (nm : Nat → ByteArray) (u : Bool) (a4 : Option Addr) (l4 c4 : Nat) (a5 : Option Addr) (l5 c5 : Nat) (a6 : Option Addr) (l6 c6 : Nat) (w : World)
    (h : InF w a m (fun j => .string (nm j))) (hm : m ≤ 65536) :
    Calls Try.prog 20 #[.string n, .string t, .slice a m cap, .bool u, .slice a4 l4 c4, .slice a5 l5 c5, .slice a6 l6 c6] w fun e w' => ∃ p q T, e = .returned (.pointer (some ⟨p, 0, none⟩)) ∧
      Idx w' p q T m n t u (.slice a4 l4 c4) (.slice a5 l5 c5) (.slice a6 l6 c6) nm ∧ Below w.heap.size w w' := by
  obtain ⟨i0, hi, hz0, hz1, hz2⟩ := info_parts Try.info53
  go_enter Try.func20, Try.ntmps20
  go_wp2_with (at_make; refine wpList_make_full _ rfl _ _ 25 rfl w.heap.size 53 i0 _ 5 Try.underlying25 hi hz0 hz1 .i64 .i64 _ _ m rfl rfl rfl rfl (by rw [hz2]; omega) (by unfold maxLen; omega) (Nat.le_refl _) ?_; intro w1 hown1 hgrow1)
  have hrow := made_row hown1 []
  have hbel : Below w.heap.size w w1 := (Below.refl _ _).grown hgrow1 (Nat.le_refl _) (fun k hk => by cases hk)
  clear hown1 hgrow1
  go_loopw [16] (fun i wr => ∃ k : Nat, k ≤ m ∧ i = .int .i64 k ∧ wr.rowIs w.heap.size 53 (m * 5) (nmCell nm k) ∧ Below w.heap.size w wr) (fun i _ => m - (intOf i).toNat)
  case atStart => exact ⟨0, Nat.zero_le _, rfl, hrow.congr (fun i _ => by simp [nmCell, colCell]), hbel⟩
  case round =>
    obtain ⟨k, hk, rfl, hr, hb⟩ := hrel
    clear hrow hbel
    by_cases hlt : k < m
    · obtain ⟨b, off, rfl, hbl, hc⟩ := h.resolve_left (by omega)
      have x0 : wr.cell? ⟨b, off + k, none⟩ = some (.string (nm k)) := (hb.cell (by exact hbl)).trans (hc k hlt)
      have x1 := hr.cell (i := k * 5) (by omega)
      have x2 := hr.frozen (k * 5)
      go_wp2
      go_roundw
      case rel => exact ⟨k + 1, by omega, by go_num, nm_step hr, hb.setCell (Nat.le_refl _) _⟩
      case measure => simp [intOf]; omega
    · have : k = m := by omega
      subst this
      have hlt0 := hr.lt
      go_wp2
      go_ret
      refine ⟨wr.heap.size + 1, wr.heap.size, w.heap.size, rfl, ?_, (hb.alloc (by omega) _).alloc (by simp; omega) _⟩
      exact idx_new hr
end Go.Proofs.Qxb6600092a

import Derived.Test.Qxb6600092aConv
import Derived.BigQuiet
import Derived.Deep.QuietTactic
namespace Go.Proofs.Qxb6600092a
open Go.RowKit Go.Maps
set_option linter.unusedVariables false

/-- WHAT THE WALK IS TOLD OF A SLICE OF INTEGERS THAT CAME IN: it is nil; or it leads to a row of 'cap' cells, the numbers 'zs' (the first 'len' are its elements, the rest its spare room), each fitting its kind. -/
def IsRow (k : IntKind) (w : World) (a : Option Addr) (len cap : Nat) (zs : List Int) : Prop :=
  (a = none ∧ len = 0 ∧ cap = 0 ∧ zs = []) ∨
  ∃ x, a = some x ∧ len ≤ cap ∧ cap ≤ maxLen ∧ zs.length = cap ∧ (∀ i, i < zs.length → w.cell? (x.add i) = some (.int k (zs.getD i 0))) ∧ ∀ n ∈ zs, (Lit.int k n).wf = true

theorem cell_lt {w : World} {b o : Nat} {v : Value} (h : w.cell? ⟨b, o, none⟩ = some v) : b < w.heap.size := by
  rcases Nat.lt_or_ge b w.heap.size with h1 | h1
  · exact h1
  · simp [World.cell?, Array.getElem?_eq_none h1] at h

theorem IsRow.ins {w : World} {a : Option Addr} {len cap : Nat} {zs : List Int} (h : IsRow .i64 w a len cap zs) :
    InInts w a len zs ∧ len ≤ 9223372036854775807 ∧ (∀ n ∈ zs, (Lit.int .i64 n).wf = true) := by
  rcases h with ⟨rfl, rfl, rfl, rfl⟩ | ⟨x, rfl, h1, h2, h3, h4, h5⟩
  · exact ⟨.inl rfl, by omega, by simp⟩
  · refine ⟨?_, by unfold maxLen at h2; omega, h5⟩
    rcases Nat.eq_zero_or_pos len with h0 | h0
    · exact .inl h0
    · have hc0 := h4 0 (by omega)
      obtain ⟨b, off, spot⟩ := x
      cases spot with
      | some sp => simp [Addr.add, World.cell?] at hc0; split at hc0 <;> simp at hc0
      | none =>
        refine .inr ⟨b, off, rfl, ?_, fun j hj => by rw [← Go.WideShapes.add_plain]; exact h4 j (by omega)⟩
        exact cell_lt (o := off) (by simpa [Addr.add] using hc0)

set_option maxHeartbeats 400000 in
theorem zz8_yes (a0 a1 : Option Addr) (len0 cap0 len1 cap1 : Nat) (w : World) (h : len0 + len1 ≤ 1048576) :
    Calls Try.prog 8 #[.slice a0 len0 cap0, .slice a1 len1 cap1] w fun e w' => e = .returned (.bool true) ∧ w' = w := by
  go_enter Try.func8, Try.ntmps8
  go_wp2
  go_ret
  exact ⟨rfl, rfl⟩

set_option maxHeartbeats 400000 in
theorem zz8_no (a0 a1 : Option Addr) (len0 cap0 len1 cap1 : Nat) (w : World) (h : ¬ len0 + len1 ≤ 1048576) (h0 : len0 ≤ 9223372036854775807) (h1 : len1 ≤ 9223372036854775807) :
    Calls Try.prog 8 #[.slice a0 len0 cap0, .slice a1 len1 cap1] w fun e w' => e = .returned (.bool false) ∧ w' = w := by
  by_cases c0 : len0 ≤ 1048576
  · by_cases c1 : len1 ≤ 1048576
    all_goals
      go_enter Try.func8, Try.ntmps8
      go_wp2
      go_ret
      exact ⟨rfl, rfl⟩
  · go_enter Try.func8, Try.ntmps8
    go_wp2
    go_ret
    exact ⟨rfl, rfl⟩

/-- A TABLE IN MEMORY: at block p a struct whose third field is a row of n columns that bear the IDs zs. -/
structure Tab (w : World) (p B n : Nat) (zs : List Int) : Prop where
  lt : p < w.heap.size
  cell : w.cell? ⟨p, 2, none⟩ = some (.slice (some ⟨B, 0, none⟩) n n)
  row : w.rowIs B 53 (n * 5) (colCell zs n)

theorem Tab.below {w w' : World} {p B n : Nat} {zs : List Int} (h : Tab w p B n zs) (hb : Below w.heap.size w w') : Tab w' p B n zs :=
  ⟨Nat.lt_of_lt_of_le h.lt hb.size, (hb.cell (by exact h.lt)).trans h.cell, h.row.of_block (hb.block _ h.row.lt)⟩

theorem Tab.alloc {w : World} {p B n : Nat} {zs : List Int} (h : Tab w p B n zs) (o : Obj) : Tab (w.alloc o) p B n zs := h.below ((Below.refl _ _).alloc (Nat.le_refl _) o)

theorem Tab.new {w : World} {B n : Nat} {zs : List Int} (h : w.rowIs B 53 (n * 5) (colCell zs n)) (v0 v1 v3 v4 v5 v6 v7 v8 : Value) (t : TypeId) :
    Tab (w.alloc (.cells #[v0, v1, .slice (some ⟨B, 0, none⟩) n n, v3, v4, v5, v6, v7, v8] t)) w.heap.size B n zs :=
  ⟨by simp, by simp, h.alloc _⟩

theorem conv_tab {w : World} {pt pf Bt Bf n m : Nat} {ts fs : List Int} (ht : Tab w pt Bt n ts) (hf : Tab w pf Bf m fs) (hn : n ≤ 65536) (hm : m ≤ 65536) (hwt : ∀ z ∈ ts, (Lit.int .i64 z).wf = true) (hwf : ∀ z ∈ fs, (Lit.int .i64 z).wf = true) :
    Calls Try.prog 10 #[.pointer (some ⟨pt, 0, none⟩), .pointer (some ⟨pf, 0, none⟩)] w fun e w' => ∃ g, e = .returned (.slice (some ⟨g, 0, none⟩) n n) ∧ w.heap.size ≤ g ∧
      w'.rowIs g 3 n (fun i => .int .i64 (lastIdx fs m (ts.getD i 0))) ∧ Below w.heap.size w w' :=
  conv_any pt pf Bt Bf n m ts fs w hn hm ht.lt hf.lt hwf hwt ht.cell hf.cell ht.row hf.row

theorem bel_drewN {B : Nat} {a w : World} (h : Below B a w) (n : Nat) : Below B a (w.drewN n) := ⟨h.os, h.tape, h.output, h.size, h.block⟩
theorem rowIs_drewN {w : World} {b t n : Nat} {f : Nat → Value} (h : w.rowIs b t n f) (k : Nat) : (w.drewN k).rowIs b t n f := h

end Go.Proofs.Qxb6600092a

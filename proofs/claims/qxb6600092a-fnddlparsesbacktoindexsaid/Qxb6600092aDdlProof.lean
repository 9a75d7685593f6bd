/-
  'Rows.FnDDLParsesBackToIndexSaid': for every input the law returns true and leaves its arguments as they were. The frame is the guide's own way at seven parameters; the walk is ours.
-/
import Derived.Test.Qxb6600092aDdlMain
import Derived.ProofKit
import Derived.OpenShut
import Derived.ShutString
import Derived.ChangeOld
import Derived.SliceStrings
import Derived.Deep.Grids
namespace Go.Proofs.Qxb6600092a.fnDDLParsesBackToIndex
open Go.ChangeShapes Go.WideShapes Go.ChangeAt Go.RowKit
open Go.ChangeMaps (open_string shut_string)
set_option linter.unusedVariables false

theorem own : ownKnob Try.prog.godebug = none := by kernel_rfl
theorem laidOut : laidOutB Try.prog = true := by kernel_rfl

set_option maxRecDepth 100000 in
set_option maxHeartbeats 1000000 in
theorem early (n t : ByteArray) (a : Option Addr) (m cap : Nat) (nm : Nat → ByteArray) (u : Bool) (a4 : Option Addr) (l4 c4 : Nat) (a5 : Option Addr) (l5 c5 : Nat) (a6 : Option Addr) (l6 c6 : Nat) (w : World)
    (h : InF w a m (fun j => .string (nm j))) (mm : m ≤ 9223372036854775807)
    (hbad : ¬ (m ≤ 65536 ∧ l4 ≤ 65536 ∧ l5 ≤ 65536 ∧ l6 ≤ 65536 ∧ n.size ≤ 1048576 ∧ t.size ≤ 1048576)) :
    Calls Try.prog 6 #[.string n, .string t, .slice a m cap, .bool u, .slice a4 l4 c4, .slice a5 l5 c5, .slice a6 l6 c6] w fun e w' => e = .returned (.bool true) ∧ Below w.heap.size w w' := by
  go_enter Try.func6, Try.ntmps6
  go_wp2_with fail
  refine (zz14_any n t a m cap nm u a4 l4 c4 a5 l5 c5 a6 l6 c6 w h mm).mono ?_
  rintro e w ⟨⟨r, rfl, _⟩, rfl⟩
  cases r with
  | false =>
    go_wp2_with fail
    go_ret
    exact ⟨rfl, Below.refl _ _⟩
  | true =>
    by_cases g1 : m ≤ 65536
    · by_cases g2 : l4 ≤ 65536
      · by_cases g3 : l5 ≤ 65536
        · by_cases g4 : l6 ≤ 65536
          · by_cases g5 : n.size ≤ 1048576
            · have g6 : ¬ t.size ≤ 1048576 := by omega
              clear hbad h
              go_wp2_with fail
              go_ret
              exact ⟨rfl, Below.refl _ _⟩
            · clear hbad h
              go_wp2_with fail
              go_ret
              exact ⟨rfl, Below.refl _ _⟩
          · clear hbad h
            go_wp2_with fail
            go_ret
            exact ⟨rfl, Below.refl _ _⟩
        · clear hbad h
          go_wp2_with fail
          go_ret
          exact ⟨rfl, Below.refl _ _⟩
      · clear hbad h
        go_wp2_with fail
        go_ret
        exact ⟨rfl, Below.refl _ _⟩
    · clear hbad h
      go_wp2_with fail
      go_ret
      exact ⟨rfl, Below.refl _ _⟩

theorem walk (n t : ByteArray) (a : Option Addr) (m cap : Nat) (nm : Nat → ByteArray) (u : Bool) (a4 : Option Addr) (l4 c4 : Nat) (a5 : Option Addr) (l5 c5 : Nat) (a6 : Option Addr) (l6 c6 : Nat) (ci si : Nat → Int) (ds : Nat → Bool) (w : World)
    (h : InF w a m (fun j => .string (nm j))) (h4 : InF w a4 l4 (fun j => .int .i64 (ci j))) (h5 : InF w a5 l5 (fun j => .bool (ds j))) (h6 : InF w a6 l6 (fun j => .int .i64 (si j)))
    (e4 : a4 = none → l4 = 0) (e5 : a5 = none → l5 = 0) (e6 : a6 = none → l6 = 0) (mm : m ≤ 9223372036854775807) :
    Calls Try.prog 6 #[.string n, .string t, .slice a m cap, .bool u, .slice a4 l4 c4, .slice a5 l5 c5, .slice a6 l6 c6] w fun e w' => e = .returned (.bool true) ∧ Below w.heap.size w w' := by
  by_cases hok : m ≤ 65536 ∧ l4 ≤ 65536 ∧ l5 ≤ 65536 ∧ l6 ≤ 65536 ∧ n.size ≤ 1048576 ∧ t.size ≤ 1048576
  · exact law_main n t a m cap nm u a4 l4 c4 a5 l5 c5 a6 l6 c6 ci si ds w h h4 h5 h6 e4 e5 e6 hok.1 hok.2.1 hok.2.2.1 hok.2.2.2.1 hok.2.2.2.2.1 hok.2.2.2.2.2
  · exact early n t a m cap nm u a4 l4 c4 a5 l5 c5 a6 l6 c6 w h mm hok

theorem in_of {w : World} {x : Addr} {len : Nat} {f : Nat → Value} (h : ∀ i, i < len → w.cell? (x.add i) = some (f i)) : InF w (some x) len f := by
  rcases Nat.eq_zero_or_pos len with h0 | h0
  · exact .inl h0
  · have hc0 := h 0 h0
    obtain ⟨b, off, spot⟩ := x
    have hspot : spot = none := by simpa [Addr.add] using World.cell?_spot hc0
    subst hspot
    refine .inr ⟨b, off, rfl, ?_, fun j hj => by rw [← Go.WideShapes.add_plain]; exact h j hj⟩
    exact cell_lt (o := off) (by simpa [Addr.add] using hc0)

/-! ### The row's step -/
set_option maxRecDepth 100000 in
theorem lifted (os : Os) (started : os.Started) (H : Type) (enc : TypeId × Value → H) :
    ReturnsInHanded {} Try.checked os 6 .any (Rows.fnDDLParsesBackToIndexSpec.pre6 enc Try.prog Try.f6 Rows.fnDDLParsesBackToIndexRow.domain false) (Rows.fnDDLParsesBackToIndexSpec.post enc Try.prog Try.f6 false true false false) := by
  refine returnsInHanded_of_change (C := Try.checked) own started (by kernel_rfl) Try.func6
    (ChangeSpec.witness6 (enc := enc) (C := Try.checked) false ⟨#[], #[.string .empty, .string .empty, .slice none 0 0, .bool false, .slice none 0 0, .slice none 0 0, .slice none 0 0], []⟩ 8 (by kernel_rfl) (by kernel_rfl) (by kernel_rfl) (by kernel_rfl)) ?_
  intro W base args ds gs before hval0 hW hcnd _
  have hval : ∀ (j : Nat) t v, Try.f6.params[j]? = some t → args[j]? = some v → Value.okWide Try.prog W .any base t v := hval0
  have hW' := hW
  obtain ⟨p, q, hA0, hV, rfl, hfz, hnd⟩ := hW
  have hA : DataW.TrodAll enc Try.prog W 0 (fun _ => true) true Try.f6.params.toList args.toList ds p := hA0
  rw [Try.params6] at hA hval
  obtain ⟨v0, vs0, d0, ds0, p0, q0, hargs, rfl, rfl, h0, r0⟩ := trodAll_cons hA
  obtain ⟨v1, vs1, d1, ds1, p1, q1, rfl, rfl, rfl, h1, r1⟩ := trodAll_cons r0
  obtain ⟨v2, vs2, d2, ds2, p2, q2, rfl, rfl, rfl, h2, r2⟩ := trodAll_cons r1
  obtain ⟨v3, vs3, d3, ds3, p3, q3, rfl, rfl, rfl, h3, r3⟩ := trodAll_cons r2
  obtain ⟨v4, vs4, d4, ds4, p4, q4, rfl, rfl, rfl, h4, r4⟩ := trodAll_cons r3
  obtain ⟨v5, vs5, d5, ds5, p5, q5, rfl, rfl, rfl, h5, r5⟩ := trodAll_cons r4
  obtain ⟨v6, vs6, d6, ds6, p6, q6, rfl, rfl, rfl, h6, r6⟩ := trodAll_cons r5
  obtain ⟨rfl, rfl, rfl⟩ := trodAll_nil r6
  obtain rfl : args = #[v0, v1, v2, v3, v4, v5, v6] := by cases args; simp_all
  obtain ⟨rfl, rfl⟩ := trodVars_none hV
  obtain ⟨a2, len2, cap2, rfl⟩ := okWide_slice Try.underlying37 (hval 2 37 v2 rfl rfl)
  have k2 := h2
  have lt2 : ∀ x ∈ p2, x.block < W.heap.size := by obtain ⟨m, hm⟩ := k2; exact DataW.trod_lt m _ _ _ hm
  obtain ⟨nm, w2, m2⟩ : ∃ nm : Nat → ByteArray, InF W a2 len2 (fun j => .string (nm j)) ∧ len2 ≤ 9223372036854775807 := by
    obtain ⟨fuel, hf⟩ := h2
    rcases open_strings Try.underlying37 Try.underlying9 (by kernel_rfl) hf with ⟨hcs, _⟩ | ⟨x, l, c, zs, hcs, _, hl, hm, hz, _, hcell, hwz⟩
    · simp [Value.cells] at hcs
      obtain ⟨rfl, rfl, rfl⟩ := hcs
      exact ⟨fun _ => ByteArray.empty, .inl rfl, by omega⟩
    · simp [Value.cells] at hcs
      obtain ⟨rfl, rfl, rfl⟩ := hcs
      simp at hz
      exact ⟨fun j => zs.getD j ByteArray.empty, in_of (fun i hi => hcell i (by omega)), by unfold maxLen at hm; omega⟩
  obtain ⟨a4, len4, cap4, rfl⟩ := okWide_slice Try.underlying22 (hval 4 22 v4 rfl rfl)
  have k4 := h4
  have lt4 : ∀ x ∈ p4, x.block < W.heap.size := by obtain ⟨m, hm⟩ := k4; exact DataW.trod_lt m _ _ _ hm
  obtain ⟨ci, w4, e4⟩ : ∃ ci : Nat → Int, InF W a4 len4 (fun j => .int .i64 (ci j)) ∧ (a4 = none → len4 = 0) := by
    obtain ⟨fuel, hf⟩ := h4
    rcases open_ints Try.underlying22 Try.underlying3 (by kernel_rfl) hf with ⟨hcs, _⟩ | ⟨x, l, c, zs, hcs, _, hl, hm, hz, _, hcell, hwz⟩
    · simp [Value.cells] at hcs
      obtain ⟨rfl, rfl, rfl⟩ := hcs
      exact ⟨fun _ => 0, .inl rfl, fun _ => rfl⟩
    · simp [Value.cells] at hcs
      obtain ⟨rfl, rfl, rfl⟩ := hcs
      simp at hz
      exact ⟨fun j => zs.getD j 0, in_of (fun i hi => hcell i (by omega)), fun h => by cases h⟩
  obtain ⟨a5, len5, cap5, rfl⟩ := okWide_slice Try.underlying27 (hval 5 27 v5 rfl rfl)
  have k5 := h5
  have lt5 : ∀ x ∈ p5, x.block < W.heap.size := by obtain ⟨m, hm⟩ := k5; exact DataW.trod_lt m _ _ _ hm
  obtain ⟨fl, w5, e5⟩ : ∃ fl : Nat → Bool, InF W a5 len5 (fun j => .bool (fl j)) ∧ (a5 = none → len5 = 0) := by
    obtain ⟨fuel, hf⟩ := h5
    rcases Go.Deep.open_bools Try.underlying27 Try.underlying4 (by kernel_rfl) hf with ⟨hcs, _⟩ | ⟨x, l, c, B, hcs, _, hl, hm, _, hcell⟩
    · simp [Value.cells] at hcs
      obtain ⟨rfl, rfl, rfl⟩ := hcs
      exact ⟨fun _ => false, .inl rfl, fun _ => rfl⟩
    · simp [Value.cells] at hcs
      obtain ⟨rfl, rfl, rfl⟩ := hcs
      exact ⟨B, in_of (fun i hi => hcell i (by omega)), fun h => by cases h⟩
  obtain ⟨a6, len6, cap6, rfl⟩ := okWide_slice Try.underlying22 (hval 6 22 v6 rfl rfl)
  have k6 := h6
  have lt6 : ∀ x ∈ p6, x.block < W.heap.size := by obtain ⟨m, hm⟩ := k6; exact DataW.trod_lt m _ _ _ hm
  obtain ⟨si, w6, e6⟩ : ∃ si : Nat → Int, InF W a6 len6 (fun j => .int .i64 (si j)) ∧ (a6 = none → len6 = 0) := by
    obtain ⟨fuel, hf⟩ := h6
    rcases open_ints Try.underlying22 Try.underlying3 (by kernel_rfl) hf with ⟨hcs, _⟩ | ⟨x, l, c, zs, hcs, _, hl, hm, hz, _, hcell, hwz⟩
    · simp [Value.cells] at hcs
      obtain ⟨rfl, rfl, rfl⟩ := hcs
      exact ⟨fun _ => 0, .inl rfl, fun _ => rfl⟩
    · simp [Value.cells] at hcs
      obtain ⟨rfl, rfl, rfl⟩ := hcs
      simp at hz
      exact ⟨fun j => zs.getD j 0, in_of (fun i hi => hcell i (by omega)), fun h => by cases h⟩
  obtain ⟨s0, rfl, rfl, rfl, z0⟩ := open_string Try.underlying9 (hval 0 9 v0 rfl rfl) h0
  obtain ⟨s1, rfl, rfl, rfl, z1⟩ := open_string Try.underlying9 (hval 1 9 v1 rfl rfl) h1
  obtain ⟨u3, rfl, rfl, rfl⟩ := open_bool Try.underlying4 (hval 3 4 v3 rfl rfl) h3
  clear hA0 hval0
  refine (walk s0 s1 a2 len2 cap2 nm u3 a4 len4 cap4 a5 len5 cap5 a6 len6 cap6 ci si fl W w2 w4 w5 w6 e4 e5 e6 m2).mono fun e W' ⟨he, bel⟩ => ?_
  subst he
  exact ⟨_, rfl, _, _, _, [], _, [], hW', trodAll_mk1 (shut_bool Try.underlying4 _), (trodAll_cons_mk (shut_string Try.underlying9 z0) (trodAll_cons_mk (shut_string Try.underlying9 z1) (trodAll_cons_mk (Below.trod laidOut (by kernel_rfl) (of_decide_eq_true (by kernel_rfl)) k2 bel lt2) (trodAll_cons_mk (shut_bool Try.underlying4 _) (trodAll_cons_mk (Below.trod laidOut (by kernel_rfl) (of_decide_eq_true (by kernel_rfl)) k4 bel lt4) (trodAll_cons_mk (Below.trod laidOut (by kernel_rfl) (of_decide_eq_true (by kernel_rfl)) k5 bel lt5) (trodAll_cons_mk (Below.trod laidOut (by kernel_rfl) (of_decide_eq_true (by kernel_rfl)) k6 bel lt6) trodAll_mk0))))))), rfl, bel.frame _, fun h => by cases h⟩

theorem over : Rows.fnDDLParsesBackToIndexRow.holds Try.pinned (OpenSpec.ofChange Rows.fnDDLParsesBackToIndexSpec) :=
  OpenClaim.holds_of_wide 6 Try.f6 rfl rfl rfl rfl rfl rfl rfl ⟨rfl, rfl, rfl, rfl, rfl⟩ rfl rfl rfl rfl rfl (by kernel_rfl) Try.func6 (by kernel_rfl)
    (of_decide_eq_true (by kernel_rfl)) (by unfold Func.isWrapper; first | (rw [if_pos (by decide +kernel)]; kernel_rfl) | (rw [if_neg (by decide +kernel)]; exact ⟨rfl, rfl⟩))
    (fun os started H enc _ => lifted os started H enc)

/-- THE STATEMENT -/
theorem proved : Rows.FnDDLParsesBackToIndexSaid := over
end Go.Proofs.Qxb6600092a.fnDDLParsesBackToIndex
